section
-- ===== PART A: goes FIRST, ahead of the names: the tables' words, and 'selects' of the private methods out of them =====
/-- a private method of a class that the tables say can be made, by its rows of tables_1 -/
def lw_okq (q : MethodName × Nat) : Prop := (q.1.cls ≠ "java/lang/invoke/MethodHandle" ∧ q.1.cls ≠ "java/lang/invoke/VarHandle") ∧ Cond.instantiable q.1.cls q.2 ∈ tables_1 ∧ Cond.privateMethod q.1 ∈ tables_1 ∧ Cond.instanceMethod q.1 ∈ tables_1
set_option maxRecDepth 100000
theorem lw_p0 : lw_okq (⟨"BitSquareDeskModel", "lay", "(IJ)V"⟩, 2) := ⟨⟨by decide +kernel, by decide +kernel⟩, List.mem_of_getElem? (i := 55) rfl, List.mem_of_getElem? (i := 80) rfl, List.mem_of_getElem? (i := 81) rfl⟩
theorem lw_p1 : lw_okq (⟨"BitSquareDeskModel", "is", "(II)Z"⟩, 2) := ⟨⟨by decide +kernel, by decide +kernel⟩, List.mem_of_getElem? (i := 55) rfl, List.mem_of_getElem? (i := 98) rfl, List.mem_of_getElem? (i := 99) rfl⟩
def lw_privs_1 : List (MethodName × Nat) := [(⟨"BitSquareDeskModel", "lay", "(IJ)V"⟩, 2), (⟨"BitSquareDeskModel", "is", "(II)Z"⟩, 2)]
theorem lw_r1 : ∀ q ∈ lw_privs_1, lw_okq q := List.forall_mem_cons.mpr ⟨lw_p0, List.forall_mem_cons.mpr ⟨lw_p1, fun _ h => absurd h List.not_mem_nil⟩⟩
def lw_privs : List (MethodName × Nat) := lw_privs_1
def lw_tbl : List Cond := k2_sels lw_privs ++ tables_1
theorem lw_privs_ok : ∀ q ∈ lw_privs, lw_okq q := lw_r1
-- ===== ONE list of words for every method: the tables' words that hold all through a run =====
def lw_all : List Cond := lw_tbl.filter goodWord
/-- a word of the tables by its place: claim/WORDS.tsv -/
theorem lw_w {w : Cond} (i : Nat) (h : lw_tbl[i]? = some w) (g : goodWord w = true) : w ∈ lw_all := List.mem_filter.mpr ⟨List.mem_of_getElem? h, g⟩
theorem lw_all_tbl {w : Cond} (h : w ∈ lw_all) : w ∈ lw_tbl := (List.mem_filter.mp h).1
theorem lw_self : GoodIn lw_all lw_all := fun w h => ⟨h, good_of_word (List.mem_filter.mp h).2⟩
/-- a class's field words, by their places -/
theorem lw_in (ws : List Cond) (ps : List Nat) (hp : ws = ps.filterMap (fun i => lw_tbl[i]?)) (hg : ws.all goodWord = true) : ∀ w ∈ ws, w ∈ lw_all := by
  intro w h
  have h1 := List.all_eq_true.mp hg w h
  rw [hp] at h
  obtain ⟨i, -, hi⟩ := List.mem_filterMap.mp h
  exact lw_w i hi h1
/-- the words of a contract for the method y with code b, L locals, answer r -/
abbrev ws_ (y : MethodName) (b : ByteArray) (L : Nat) (r : Option FieldType) : List Cond := Cond.code y b L r :: lw_all
theorem lw_meth {y : MethodName} {b : ByteArray} {L : Nat} {r : Option FieldType} (h : Cond.code y b L r ∈ lw_all) : GoodIn lw_all (ws_ y b L r) := by
  intro w hw
  rcases List.mem_cons.mp hw with e | e
  · rw [e]
    exact lw_self _ h
  · exact lw_self _ e
theorem lw_app {a c : List Cond} (ha : ∀ w ∈ a, w ∈ lw_all) (hc : GoodIn lw_all c) : GoodIn lw_all (a ++ c) := by
  intro w hw
  rcases List.mem_append.mp hw with e | e
  · exact lw_self w (ha w e)
  · exact hc w e
/-- what a call through an object asks: cwV n hts (lw_V ..) -/
theorem lw_V {own : String} {idx : Nat} {C : String} {y : MethodName} {b : ByteArray} {L : Nat} {r : Option FieldType} (h1 : Cond.methodLink own idx y ∈ lw_all) (h2 : Cond.instanceMethod y ∈ lw_all) (h3 : Cond.selects C y y ∈ lw_all) (h4 : Cond.initialized C ∈ lw_all) (h5 : Cond.code y b L r ∈ lw_all) : GoodIn lw_all (wsV own idx C y (ws_ y b L r)) := by
  refine lw_app ?_ (lw_meth h5)
  intro w hw
  simp only [List.mem_cons, List.not_mem_nil, or_false] at hw
  rcases hw with e | e | e | e
  · rw [e]; exact h1
  · rw [e]; exact h2
  · rw [e]; exact h3
  · rw [e]; exact h4
/-- what a static call asks: va_cwS n hts (lw_S ..) -/
theorem lw_S {own : String} {idx : Nat} {y : MethodName} {b : ByteArray} {L : Nat} {r : Option FieldType} (h1 : Cond.methodLink own idx y ∈ lw_all) (h2 : Cond.static y ∈ lw_all) (h3 : Cond.initialized y.cls ∈ lw_all) (h4 : Cond.code y b L r ∈ lw_all) : GoodIn lw_all (va_wsS own idx y (ws_ y b L r)) := by
  refine lw_app ?_ (lw_meth h4)
  intro w hw
  simp only [List.mem_cons, List.not_mem_nil, or_false] at hw
  rcases hw with e | e | e
  · rw [e]; exact h1
  · rw [e]; exact h2
  · rw [e]; exact h3
/-- the words of a contract for a method WITH HANDLERS (hh: its table) -/
abbrev wsW_ (y : MethodName) (b : ByteArray) (L : Nat) (r : Option FieldType) (hh : List (Nat × Nat × Nat × Nat)) : List Cond := Cond.codeWith y b L r hh :: lw_all
theorem lw_methW {y : MethodName} {b : ByteArray} {L : Nat} {r : Option FieldType} {hh : List (Nat × Nat × Nat × Nat)} (h : Cond.codeWith y b L r hh ∈ lw_all) : GoodIn lw_all (wsW_ y b L r hh) := by
  intro w hw
  rcases List.mem_cons.mp hw with e | e
  · rw [e]
    exact lw_self _ h
  · exact lw_self _ e
/-- any list of words by their places (lw_in), good -/
theorem lw_good {ws : List Cond} (h : ∀ w ∈ ws, w ∈ lw_all) : GoodIn lw_all ws := fun w hw => lw_self w (h w hw)
/-- what a call of a method with handlers asks: vx_cwVW n hts (lw_VW ..), vx_cwSW n hts (lw_SW ..) -/
theorem lw_VW {own : String} {idx : Nat} {C : String} {y : MethodName} {b : ByteArray} {L : Nat} {r : Option FieldType} {hh : List (Nat × Nat × Nat × Nat)} (h1 : Cond.methodLink own idx y ∈ lw_all) (h2 : Cond.instanceMethod y ∈ lw_all) (h3 : Cond.selects C y y ∈ lw_all) (h4 : Cond.initialized C ∈ lw_all) (h5 : Cond.codeWith y b L r hh ∈ lw_all) : GoodIn lw_all (wsV own idx C y (wsW_ y b L r hh)) := by
  refine lw_app ?_ (lw_methW h5)
  intro w hw
  simp only [List.mem_cons, List.not_mem_nil, or_false] at hw
  rcases hw with e | e | e | e
  · rw [e]; exact h1
  · rw [e]; exact h2
  · rw [e]; exact h3
  · rw [e]; exact h4
theorem lw_SW {own : String} {idx : Nat} {y : MethodName} {b : ByteArray} {L : Nat} {r : Option FieldType} {hh : List (Nat × Nat × Nat × Nat)} (h1 : Cond.methodLink own idx y ∈ lw_all) (h2 : Cond.static y ∈ lw_all) (h3 : Cond.initialized y.cls ∈ lw_all) (h4 : Cond.codeWith y b L r hh ∈ lw_all) : GoodIn lw_all (va_wsS own idx y (wsW_ y b L r hh)) := by
  refine lw_app ?_ (lw_methW h4)
  intro w hw
  simp only [List.mem_cons, List.not_mem_nil, or_false] at hw
  rcases hw with e | e | e
  · rw [e]; exact h1
  · rw [e]; exact h2
  · rw [e]; exact h3
/-- a word by its place in its run of the tables -/
theorem lw_at {r : List Cond} (hr : ∀ w ∈ r, w ∈ lw_tbl) {w : Cond} (i : Nat) (h : r[i]? = some w) : w ∈ lw_tbl := hr w (List.mem_of_getElem? h)
theorem lw_g {w : Cond} (h : w ∈ lw_tbl) (g : goodWord w = true) : w ∈ lw_all := List.mem_filter.mpr ⟨h, g⟩
theorem lw_ms : ∀ w ∈ k2_sels lw_privs, w ∈ lw_tbl := fun w h => show w ∈ k2_sels lw_privs ++ tables_1 from List.mem_append_left _ h
theorem lw_m0 : ∀ w ∈ tables_1, w ∈ lw_tbl := fun w h => show w ∈ k2_sels lw_privs ++ tables_1 from List.mem_append_right (k2_sels lw_privs) h
theorem qs0 : (Cond.selects "BitSquareDeskModel" ⟨"BitSquareDeskModel", "lay", "(IJ)V"⟩ ⟨"BitSquareDeskModel", "lay", "(IJ)V"⟩) ∈ lw_all := lw_g (lw_at lw_ms 0 rfl) rfl
theorem qs1 : (Cond.selects "BitSquareDeskModel" ⟨"BitSquareDeskModel", "is", "(II)Z"⟩ ⟨"BitSquareDeskModel", "is", "(II)Z"⟩) ∈ lw_all := lw_g (lw_at lw_ms 1 rfl) rfl
end
section
/-! DECODE ROWS BY BYTES: one lemma an opcode; a method's code is cut into short pieces once, and a row reads its own piece alone. -/
set_option maxRecDepth 100000
/-- the code has just these bytes from pc on -/
def DkAt (code : ByteArray) (pc : Nat) (bs : List UInt8) : Prop := ∀ (j : Nat) (b : UInt8), bs[j]? = some b → code.data.toList[pc + j]? = some b
/-- the piece W has the bytes bs from its place j on -/
def dkIn (W : List UInt8) (j : Nat) (bs : List UInt8) : Bool := decide ((W.drop j).take bs.length = bs)
theorem dk_seg {l W T : List UInt8} {o o2 : Nat} (h : l.drop o = W ++ T) (n : Nat) (hn : W.length = n) (ho : o + n = o2) : l.drop o2 = T := by
  subst ho
  rw [← List.drop_drop, h, List.drop_left' hn]
theorem dk_at {code : ByteArray} {W T bs : List UInt8} {o pc : Nat} (h : code.data.toList.drop o = W ++ T) (j : Nat) (hp : o + j = pc) (hw : dkIn W j bs = true) : DkAt code pc bs := by
  subst hp
  intro i b e
  have h1 := of_decide_eq_true hw
  have h2 : i < bs.length := (List.getElem?_eq_some_iff.mp e).1
  have h3 : W[j + i]? = some b := by
    rw [← h1, List.getElem?_take, if_pos h2, List.getElem?_drop] at e
    exact e
  have h4 : j + i < W.length := (List.getElem?_eq_some_iff.mp h3).1
  have h5 : (code.data.toList.drop o)[j + i]? = some b := by
    rw [h, List.getElem?_append_left h4]
    exact h3
  rw [List.getElem?_drop, ← Nat.add_assoc] at h5
  exact h5
theorem dk_u1 {A : ByteArray} {p : Nat} {b : UInt8} (h : A.data.toList[p]? = some b) : (Reader.u1 : Reader DecodeError Nat) A p = .ok (b.toNat, p + 1) := by
  obtain ⟨h1, h2⟩ := List.getElem?_eq_some_iff.mp h
  have h3 : p < A.size := by simpa using h1
  have h4 : A[p]'h3 = b := h2
  have e : (Reader.u1 : Reader DecodeError Nat) A p = (if h : p < A.size then .ok (A[p].toNat, p + 1) else .error (HasTruncated.truncated p)) := by
    show (do if h : p < A.size then do set (p + 1); Pure.pure A[p].toNat else MonadExcept.throw (HasTruncated.truncated p) : Reader DecodeError Nat) A p = _
    by_cases hi : p < A.size
    · rw [dif_pos hi, dif_pos hi]; rfl
    · rw [dif_neg hi, dif_neg hi]; rfl
  rw [e, dif_pos h3, h4]
theorem dk_bind {α β : Type} {r : Reader DecodeError α} {f : α → Reader DecodeError β} {A : ByteArray} {p s : Nat} {a : α} (h : r A p = .ok (a, s)) : (r >>= f) A p = f a A s := by
  show (do let (a, s) ← r A p; f a A s : Except DecodeError (β × Nat)) = _
  rw [h]
  rfl
theorem dk_map {α β : Type} {r : Reader DecodeError α} {g : α → β} {A : ByteArray} {p s : Nat} {a : α} (h : r A p = .ok (a, s)) : (g <$> r) A p = .ok (g a, s) := by
  show (do let (a, s) ← r A p; .ok (g a, s) : Except DecodeError (β × Nat)) = _
  rw [h]
  rfl
theorem dk_u2 {A : ByteArray} {p : Nat} {a b : UInt8} (h : A.data.toList[p]? = some a) (h2 : A.data.toList[p + 1]? = some b) : (Reader.u2 : Reader DecodeError Nat) A p = .ok (a.toNat * 256 + b.toNat, p + 2) := by
  show (Reader.u1 >>= fun hi => Reader.u1 >>= fun lo => Pure.pure (hi * 256 + lo) : Reader DecodeError Nat) A p = _
  rw [dk_bind (dk_u1 h), dk_bind (dk_u1 h2)]
  rfl
theorem dk_of {code : ByteArray} {pc n : Nat} {i : Instr} (h : Decoder.instr pc code pc = .ok (i, pc + n)) : decode code pc = .ok (i, n) := by
  have e : decode code pc = (match Decoder.instr pc code pc with | .error x => .error x | .ok (j, s) => .ok (j, s - pc)) := by
    show (do let (j, s) ← Decoder.instr pc code pc; Pure.pure (j, s - pc) : Except DecodeError (Instr × Nat)) = _
    cases Decoder.instr pc code pc <;> rfl
  rw [e, h]
  show Except.ok (i, pc + n - pc) = _
  rw [Nat.add_sub_cancel_left]
theorem dk_3 {code : ByteArray} {pc : Nat} (h : DkAt code pc [3]) : decode code pc = .ok (.iconst 0, 1) := dk_of ((dk_bind (dk_u1 (h 0 _ rfl))).trans rfl)
theorem dk_4 {code : ByteArray} {pc : Nat} (h : DkAt code pc [4]) : decode code pc = .ok (.iconst 1, 1) := dk_of ((dk_bind (dk_u1 (h 0 _ rfl))).trans rfl)
theorem dk_5 {code : ByteArray} {pc : Nat} (h : DkAt code pc [5]) : decode code pc = .ok (.iconst 2, 1) := dk_of ((dk_bind (dk_u1 (h 0 _ rfl))).trans rfl)
theorem dk_6 {code : ByteArray} {pc : Nat} (h : DkAt code pc [6]) : decode code pc = .ok (.iconst 3, 1) := dk_of ((dk_bind (dk_u1 (h 0 _ rfl))).trans rfl)
theorem dk_8 {code : ByteArray} {pc : Nat} (h : DkAt code pc [8]) : decode code pc = .ok (.iconst 5, 1) := dk_of ((dk_bind (dk_u1 (h 0 _ rfl))).trans rfl)
theorem dk_9 {code : ByteArray} {pc : Nat} (h : DkAt code pc [9]) : decode code pc = .ok (.lconst 0, 1) := dk_of ((dk_bind (dk_u1 (h 0 _ rfl))).trans rfl)
theorem dk_10 {code : ByteArray} {pc : Nat} (h : DkAt code pc [10]) : decode code pc = .ok (.lconst 1, 1) := dk_of ((dk_bind (dk_u1 (h 0 _ rfl))).trans rfl)
theorem dk_16 {code : ByteArray} {pc : Nat} (a : UInt8) (h : DkAt code pc [16, a]) : decode code pc = .ok (.bipush (Reader.signed 8 a.toNat), 2) := dk_of ((dk_bind (dk_u1 (h 0 _ rfl))).trans ((dk_bind (dk_map (dk_u1 (h 1 _ rfl)))).trans rfl))
theorem dk_20 {code : ByteArray} {pc : Nat} (a b : UInt8) (h : DkAt code pc [20, a, b]) : decode code pc = .ok (.ldc2_w (a.toNat * 256 + b.toNat), 3) := dk_of ((dk_bind (dk_u1 (h 0 _ rfl))).trans ((dk_bind (dk_u2 (h 1 _ rfl) (h 2 _ rfl))).trans rfl))
theorem dk_21 {code : ByteArray} {pc : Nat} (a : UInt8) (h : DkAt code pc [21, a]) : decode code pc = .ok (.iload a.toNat, 2) := dk_of ((dk_bind (dk_u1 (h 0 _ rfl))).trans ((dk_bind (dk_u1 (h 1 _ rfl))).trans rfl))
theorem dk_22 {code : ByteArray} {pc : Nat} (a : UInt8) (h : DkAt code pc [22, a]) : decode code pc = .ok (.lload a.toNat, 2) := dk_of ((dk_bind (dk_u1 (h 0 _ rfl))).trans ((dk_bind (dk_u1 (h 1 _ rfl))).trans rfl))
theorem dk_26 {code : ByteArray} {pc : Nat} (h : DkAt code pc [26]) : decode code pc = .ok (.iload_n 0, 1) := dk_of ((dk_bind (dk_u1 (h 0 _ rfl))).trans rfl)
theorem dk_27 {code : ByteArray} {pc : Nat} (h : DkAt code pc [27]) : decode code pc = .ok (.iload_n 1, 1) := dk_of ((dk_bind (dk_u1 (h 0 _ rfl))).trans rfl)
theorem dk_28 {code : ByteArray} {pc : Nat} (h : DkAt code pc [28]) : decode code pc = .ok (.iload_n 2, 1) := dk_of ((dk_bind (dk_u1 (h 0 _ rfl))).trans rfl)
theorem dk_29 {code : ByteArray} {pc : Nat} (h : DkAt code pc [29]) : decode code pc = .ok (.iload_n 3, 1) := dk_of ((dk_bind (dk_u1 (h 0 _ rfl))).trans rfl)
theorem dk_32 {code : ByteArray} {pc : Nat} (h : DkAt code pc [32]) : decode code pc = .ok (.lload_n 2, 1) := dk_of ((dk_bind (dk_u1 (h 0 _ rfl))).trans rfl)
theorem dk_42 {code : ByteArray} {pc : Nat} (h : DkAt code pc [42]) : decode code pc = .ok (.aload_n 0, 1) := dk_of ((dk_bind (dk_u1 (h 0 _ rfl))).trans rfl)
theorem dk_43 {code : ByteArray} {pc : Nat} (h : DkAt code pc [43]) : decode code pc = .ok (.aload_n 1, 1) := dk_of ((dk_bind (dk_u1 (h 0 _ rfl))).trans rfl)
theorem dk_44 {code : ByteArray} {pc : Nat} (h : DkAt code pc [44]) : decode code pc = .ok (.aload_n 2, 1) := dk_of ((dk_bind (dk_u1 (h 0 _ rfl))).trans rfl)
theorem dk_46 {code : ByteArray} {pc : Nat} (h : DkAt code pc [46]) : decode code pc = .ok (.iaload, 1) := dk_of ((dk_bind (dk_u1 (h 0 _ rfl))).trans rfl)
theorem dk_47 {code : ByteArray} {pc : Nat} (h : DkAt code pc [47]) : decode code pc = .ok (.laload, 1) := dk_of ((dk_bind (dk_u1 (h 0 _ rfl))).trans rfl)
theorem dk_50 {code : ByteArray} {pc : Nat} (h : DkAt code pc [50]) : decode code pc = .ok (.aaload, 1) := dk_of ((dk_bind (dk_u1 (h 0 _ rfl))).trans rfl)
theorem dk_51 {code : ByteArray} {pc : Nat} (h : DkAt code pc [51]) : decode code pc = .ok (.baload, 1) := dk_of ((dk_bind (dk_u1 (h 0 _ rfl))).trans rfl)
theorem dk_54 {code : ByteArray} {pc : Nat} (a : UInt8) (h : DkAt code pc [54, a]) : decode code pc = .ok (.istore a.toNat, 2) := dk_of ((dk_bind (dk_u1 (h 0 _ rfl))).trans ((dk_bind (dk_u1 (h 1 _ rfl))).trans rfl))
theorem dk_55 {code : ByteArray} {pc : Nat} (a : UInt8) (h : DkAt code pc [55, a]) : decode code pc = .ok (.lstore a.toNat, 2) := dk_of ((dk_bind (dk_u1 (h 0 _ rfl))).trans ((dk_bind (dk_u1 (h 1 _ rfl))).trans rfl))
theorem dk_62 {code : ByteArray} {pc : Nat} (h : DkAt code pc [62]) : decode code pc = .ok (.istore_n 3, 1) := dk_of ((dk_bind (dk_u1 (h 0 _ rfl))).trans rfl)
theorem dk_65 {code : ByteArray} {pc : Nat} (h : DkAt code pc [65]) : decode code pc = .ok (.lstore_n 2, 1) := dk_of ((dk_bind (dk_u1 (h 0 _ rfl))).trans rfl)
theorem dk_76 {code : ByteArray} {pc : Nat} (h : DkAt code pc [76]) : decode code pc = .ok (.astore_n 1, 1) := dk_of ((dk_bind (dk_u1 (h 0 _ rfl))).trans rfl)
theorem dk_77 {code : ByteArray} {pc : Nat} (h : DkAt code pc [77]) : decode code pc = .ok (.astore_n 2, 1) := dk_of ((dk_bind (dk_u1 (h 0 _ rfl))).trans rfl)
theorem dk_80 {code : ByteArray} {pc : Nat} (h : DkAt code pc [80]) : decode code pc = .ok (.lastore, 1) := dk_of ((dk_bind (dk_u1 (h 0 _ rfl))).trans rfl)
theorem dk_84 {code : ByteArray} {pc : Nat} (h : DkAt code pc [84]) : decode code pc = .ok (.bastore, 1) := dk_of ((dk_bind (dk_u1 (h 0 _ rfl))).trans rfl)
theorem dk_89 {code : ByteArray} {pc : Nat} (h : DkAt code pc [89]) : decode code pc = .ok (.dup, 1) := dk_of ((dk_bind (dk_u1 (h 0 _ rfl))).trans rfl)
theorem dk_96 {code : ByteArray} {pc : Nat} (h : DkAt code pc [96]) : decode code pc = .ok (.iadd, 1) := dk_of ((dk_bind (dk_u1 (h 0 _ rfl))).trans rfl)
theorem dk_97 {code : ByteArray} {pc : Nat} (h : DkAt code pc [97]) : decode code pc = .ok (.ladd, 1) := dk_of ((dk_bind (dk_u1 (h 0 _ rfl))).trans rfl)
theorem dk_100 {code : ByteArray} {pc : Nat} (h : DkAt code pc [100]) : decode code pc = .ok (.isub, 1) := dk_of ((dk_bind (dk_u1 (h 0 _ rfl))).trans rfl)
theorem dk_104 {code : ByteArray} {pc : Nat} (h : DkAt code pc [104]) : decode code pc = .ok (.imul, 1) := dk_of ((dk_bind (dk_u1 (h 0 _ rfl))).trans rfl)
theorem dk_105 {code : ByteArray} {pc : Nat} (h : DkAt code pc [105]) : decode code pc = .ok (.lmul, 1) := dk_of ((dk_bind (dk_u1 (h 0 _ rfl))).trans rfl)
theorem dk_120 {code : ByteArray} {pc : Nat} (h : DkAt code pc [120]) : decode code pc = .ok (.ishl, 1) := dk_of ((dk_bind (dk_u1 (h 0 _ rfl))).trans rfl)
theorem dk_121 {code : ByteArray} {pc : Nat} (h : DkAt code pc [121]) : decode code pc = .ok (.lshl, 1) := dk_of ((dk_bind (dk_u1 (h 0 _ rfl))).trans rfl)
theorem dk_123 {code : ByteArray} {pc : Nat} (h : DkAt code pc [123]) : decode code pc = .ok (.lshr, 1) := dk_of ((dk_bind (dk_u1 (h 0 _ rfl))).trans rfl)
theorem dk_125 {code : ByteArray} {pc : Nat} (h : DkAt code pc [125]) : decode code pc = .ok (.lushr, 1) := dk_of ((dk_bind (dk_u1 (h 0 _ rfl))).trans rfl)
theorem dk_126 {code : ByteArray} {pc : Nat} (h : DkAt code pc [126]) : decode code pc = .ok (.iand, 1) := dk_of ((dk_bind (dk_u1 (h 0 _ rfl))).trans rfl)
theorem dk_127 {code : ByteArray} {pc : Nat} (h : DkAt code pc [127]) : decode code pc = .ok (.land, 1) := dk_of ((dk_bind (dk_u1 (h 0 _ rfl))).trans rfl)
theorem dk_129 {code : ByteArray} {pc : Nat} (h : DkAt code pc [129]) : decode code pc = .ok (.lor, 1) := dk_of ((dk_bind (dk_u1 (h 0 _ rfl))).trans rfl)
theorem dk_131 {code : ByteArray} {pc : Nat} (h : DkAt code pc [131]) : decode code pc = .ok (.lxor, 1) := dk_of ((dk_bind (dk_u1 (h 0 _ rfl))).trans rfl)
theorem dk_132 {code : ByteArray} {pc : Nat} (a b : UInt8) (h : DkAt code pc [132, a, b]) : decode code pc = .ok (.iinc a.toNat (Reader.signed 8 b.toNat), 3) := dk_of ((dk_bind (dk_u1 (h 0 _ rfl))).trans ((dk_bind (dk_u1 (h 1 _ rfl))).trans ((dk_bind (dk_map (dk_u1 (h 2 _ rfl)))).trans rfl)))
theorem dk_133 {code : ByteArray} {pc : Nat} (h : DkAt code pc [133]) : decode code pc = .ok (.i2l, 1) := dk_of ((dk_bind (dk_u1 (h 0 _ rfl))).trans rfl)
theorem dk_148 {code : ByteArray} {pc : Nat} (h : DkAt code pc [148]) : decode code pc = .ok (.lcmp, 1) := dk_of ((dk_bind (dk_u1 (h 0 _ rfl))).trans rfl)
theorem dk_153 {code : ByteArray} {pc : Nat} (a b : UInt8) (h : DkAt code pc [153, a, b]) : decode code pc = .ok (.ifCond .eq (Reader.signed 16 (a.toNat * 256 + b.toNat)), 3) := dk_of ((dk_bind (dk_u1 (h 0 _ rfl))).trans ((dk_bind (dk_map (dk_u2 (h 1 _ rfl) (h 2 _ rfl)))).trans rfl))
theorem dk_154 {code : ByteArray} {pc : Nat} (a b : UInt8) (h : DkAt code pc [154, a, b]) : decode code pc = .ok (.ifCond .ne (Reader.signed 16 (a.toNat * 256 + b.toNat)), 3) := dk_of ((dk_bind (dk_u1 (h 0 _ rfl))).trans ((dk_bind (dk_map (dk_u2 (h 1 _ rfl) (h 2 _ rfl)))).trans rfl))
theorem dk_155 {code : ByteArray} {pc : Nat} (a b : UInt8) (h : DkAt code pc [155, a, b]) : decode code pc = .ok (.ifCond .lt (Reader.signed 16 (a.toNat * 256 + b.toNat)), 3) := dk_of ((dk_bind (dk_u1 (h 0 _ rfl))).trans ((dk_bind (dk_map (dk_u2 (h 1 _ rfl) (h 2 _ rfl)))).trans rfl))
theorem dk_156 {code : ByteArray} {pc : Nat} (a b : UInt8) (h : DkAt code pc [156, a, b]) : decode code pc = .ok (.ifCond .ge (Reader.signed 16 (a.toNat * 256 + b.toNat)), 3) := dk_of ((dk_bind (dk_u1 (h 0 _ rfl))).trans ((dk_bind (dk_map (dk_u2 (h 1 _ rfl) (h 2 _ rfl)))).trans rfl))
theorem dk_159 {code : ByteArray} {pc : Nat} (a b : UInt8) (h : DkAt code pc [159, a, b]) : decode code pc = .ok (.if_icmp .eq (Reader.signed 16 (a.toNat * 256 + b.toNat)), 3) := dk_of ((dk_bind (dk_u1 (h 0 _ rfl))).trans ((dk_bind (dk_map (dk_u2 (h 1 _ rfl) (h 2 _ rfl)))).trans rfl))
theorem dk_162 {code : ByteArray} {pc : Nat} (a b : UInt8) (h : DkAt code pc [162, a, b]) : decode code pc = .ok (.if_icmp .ge (Reader.signed 16 (a.toNat * 256 + b.toNat)), 3) := dk_of ((dk_bind (dk_u1 (h 0 _ rfl))).trans ((dk_bind (dk_map (dk_u2 (h 1 _ rfl) (h 2 _ rfl)))).trans rfl))
theorem dk_163 {code : ByteArray} {pc : Nat} (a b : UInt8) (h : DkAt code pc [163, a, b]) : decode code pc = .ok (.if_icmp .gt (Reader.signed 16 (a.toNat * 256 + b.toNat)), 3) := dk_of ((dk_bind (dk_u1 (h 0 _ rfl))).trans ((dk_bind (dk_map (dk_u2 (h 1 _ rfl) (h 2 _ rfl)))).trans rfl))
theorem dk_167 {code : ByteArray} {pc : Nat} (a b : UInt8) (h : DkAt code pc [167, a, b]) : decode code pc = .ok (.goto (Reader.signed 16 (a.toNat * 256 + b.toNat)), 3) := dk_of ((dk_bind (dk_u1 (h 0 _ rfl))).trans ((dk_bind (dk_map (dk_u2 (h 1 _ rfl) (h 2 _ rfl)))).trans rfl))
theorem dk_172 {code : ByteArray} {pc : Nat} (h : DkAt code pc [172]) : decode code pc = .ok (.ireturn, 1) := dk_of ((dk_bind (dk_u1 (h 0 _ rfl))).trans rfl)
theorem dk_173 {code : ByteArray} {pc : Nat} (h : DkAt code pc [173]) : decode code pc = .ok (.lreturn, 1) := dk_of ((dk_bind (dk_u1 (h 0 _ rfl))).trans rfl)
theorem dk_177 {code : ByteArray} {pc : Nat} (h : DkAt code pc [177]) : decode code pc = .ok (.return_, 1) := dk_of ((dk_bind (dk_u1 (h 0 _ rfl))).trans rfl)
theorem dk_178 {code : ByteArray} {pc : Nat} (a b : UInt8) (h : DkAt code pc [178, a, b]) : decode code pc = .ok (.getstatic (a.toNat * 256 + b.toNat), 3) := dk_of ((dk_bind (dk_u1 (h 0 _ rfl))).trans ((dk_bind (dk_u2 (h 1 _ rfl) (h 2 _ rfl))).trans rfl))
theorem dk_180 {code : ByteArray} {pc : Nat} (a b : UInt8) (h : DkAt code pc [180, a, b]) : decode code pc = .ok (.getfield (a.toNat * 256 + b.toNat), 3) := dk_of ((dk_bind (dk_u1 (h 0 _ rfl))).trans ((dk_bind (dk_u2 (h 1 _ rfl) (h 2 _ rfl))).trans rfl))
theorem dk_181 {code : ByteArray} {pc : Nat} (a b : UInt8) (h : DkAt code pc [181, a, b]) : decode code pc = .ok (.putfield (a.toNat * 256 + b.toNat), 3) := dk_of ((dk_bind (dk_u1 (h 0 _ rfl))).trans ((dk_bind (dk_u2 (h 1 _ rfl) (h 2 _ rfl))).trans rfl))
theorem dk_182 {code : ByteArray} {pc : Nat} (a b : UInt8) (h : DkAt code pc [182, a, b]) : decode code pc = .ok (.invokevirtual (a.toNat * 256 + b.toNat), 3) := dk_of ((dk_bind (dk_u1 (h 0 _ rfl))).trans ((dk_bind (dk_u2 (h 1 _ rfl) (h 2 _ rfl))).trans rfl))
theorem dk_183 {code : ByteArray} {pc : Nat} (a b : UInt8) (h : DkAt code pc [183, a, b]) : decode code pc = .ok (.invokespecial (a.toNat * 256 + b.toNat), 3) := dk_of ((dk_bind (dk_u1 (h 0 _ rfl))).trans ((dk_bind (dk_u2 (h 1 _ rfl) (h 2 _ rfl))).trans rfl))
theorem dk_184 {code : ByteArray} {pc : Nat} (a b : UInt8) (h : DkAt code pc [184, a, b]) : decode code pc = .ok (.invokestatic (a.toNat * 256 + b.toNat), 3) := dk_of ((dk_bind (dk_u1 (h 0 _ rfl))).trans ((dk_bind (dk_u2 (h 1 _ rfl) (h 2 _ rfl))).trans rfl))
theorem dk_187 {code : ByteArray} {pc : Nat} (a b : UInt8) (h : DkAt code pc [187, a, b]) : decode code pc = .ok (.new (a.toNat * 256 + b.toNat), 3) := dk_of ((dk_bind (dk_u1 (h 0 _ rfl))).trans ((dk_bind (dk_u2 (h 1 _ rfl) (h 2 _ rfl))).trans rfl))
theorem dk_188_11 {code : ByteArray} {pc : Nat} (h : DkAt code pc [188, 11]) : decode code pc = .ok (.newarray .long, 2) := dk_of ((dk_bind (dk_u1 (h 0 _ rfl))).trans ((dk_bind (dk_u1 (h 1 _ rfl))).trans rfl))
theorem dk_190 {code : ByteArray} {pc : Nat} (h : DkAt code pc [190]) : decode code pc = .ok (.arraylength, 1) := dk_of ((dk_bind (dk_u1 (h 0 _ rfl))).trans rfl)
/-! java/lang/Object -/
set_option maxRecDepth 100000
def RJ0 : String := "java/lang/Object"
abbrev cJ0_init : ByteArray := object_method_1_code
def yJ0_init : MethodName := ⟨RJ0, "<init>", "()V"⟩
theorem dJ0_init_0 : decode cJ0_init 0 = .ok (.return_, 1) := by decide +kernel
theorem q13 : (Jvm.Cond.instanceMethod ({ cls := "java/lang/Object", name := "<init>", desc := "()V" } : Jvm.MethodName)) ∈ lw_all := lw_g (lw_at lw_m0 11 rfl) rfl
theorem q14 : (Jvm.Cond.code ({ cls := "java/lang/Object", name := "<init>", desc := "()V" } : Jvm.MethodName) object_method_1_code (1 : Nat) (Option.none : Option Jvm.ClassFile.FieldType)) ∈ lw_all := lw_g (lw_at lw_m0 12 rfl) rfl
/-! BitSquareDesk -/
set_option maxRecDepth 100000
def RX0 : String := "BitSquareDesk"
def TX0 : u_T := fun k => match k with
  | _ => ("BitSquareDesk", "rows", "[J", false)
def tyX0 : Nat → FieldType := fun k => match k with
  | _ => .array .long
abbrev wsX00 : List Cond := u_ws RX0 TX0 1
theorem nmX0 : ∀ a, a < 1 → ∀ b, b < 1 → a ≠ b → (TX0 a).2.1 ≠ (TX0 b).2.1 := by decide +kernel
theorem tyX0_ok : ∀ k, k < 1 → parseFieldDescriptor (TX0 k).2.2.1 = some (tyX0 k) := by decide +kernel
abbrev cX0_init : ByteArray := prog_2_method_1_code
def yX0_init : MethodName := ⟨RX0, "<init>", "()V"⟩
def dkwX0_init_0 : List UInt8 := [42, 183, 0, 1, 42, 16, 64, 188, 11, 181, 0, 7, 177]
abbrev dktX0_init_0 : List UInt8 := dkwX0_init_0 ++ []
theorem dksX0_init_0 : cX0_init.data.toList.drop 0 = dktX0_init_0 := by decide +kernel
theorem dX0_init_0 : decode cX0_init 0 = .ok (.aload_n 0, 1) := dk_42 (dk_at dksX0_init_0 0 rfl rfl)
theorem dX0_init_1 : decode cX0_init 1 = .ok (.invokespecial 1, 3) := dk_183 0 1 (dk_at dksX0_init_0 1 rfl rfl)
theorem dX0_init_4 : decode cX0_init 4 = .ok (.aload_n 0, 1) := dk_42 (dk_at dksX0_init_0 4 rfl rfl)
theorem dX0_init_5 : decode cX0_init 5 = .ok (.bipush 64, 2) := dk_16 64 (dk_at dksX0_init_0 5 rfl rfl)
theorem dX0_init_7 : decode cX0_init 7 = .ok (.newarray .long, 2) := dk_188_11 (dk_at dksX0_init_0 7 rfl rfl)
theorem dX0_init_9 : decode cX0_init 9 = .ok (.putfield 7, 3) := dk_181 0 7 (dk_at dksX0_init_0 9 rfl rfl)
theorem dX0_init_12 : decode cX0_init 12 = .ok (.return_, 1) := dk_177 (dk_at dksX0_init_0 12 rfl rfl)
abbrev cX0_set : ByteArray := prog_2_method_3_code
def yX0_set : MethodName := ⟨RX0, "set", "(III)V"⟩
def dkwX0_set_0 : List UInt8 := [42, 180, 0, 7, 27, 16, 63, 126, 28, 29, 184, 0, 15, 80, 177]
abbrev dktX0_set_0 : List UInt8 := dkwX0_set_0 ++ []
theorem dksX0_set_0 : cX0_set.data.toList.drop 0 = dktX0_set_0 := by decide +kernel
theorem dX0_set_0 : decode cX0_set 0 = .ok (.aload_n 0, 1) := dk_42 (dk_at dksX0_set_0 0 rfl rfl)
theorem dX0_set_1 : decode cX0_set 1 = .ok (.getfield 7, 3) := dk_180 0 7 (dk_at dksX0_set_0 1 rfl rfl)
theorem dX0_set_4 : decode cX0_set 4 = .ok (.iload_n 1, 1) := dk_27 (dk_at dksX0_set_0 4 rfl rfl)
theorem dX0_set_5 : decode cX0_set 5 = .ok (.bipush 63, 2) := dk_16 63 (dk_at dksX0_set_0 5 rfl rfl)
theorem dX0_set_7 : decode cX0_set 7 = .ok (.iand, 1) := dk_126 (dk_at dksX0_set_0 7 rfl rfl)
theorem dX0_set_8 : decode cX0_set 8 = .ok (.iload_n 2, 1) := dk_28 (dk_at dksX0_set_0 8 rfl rfl)
theorem dX0_set_9 : decode cX0_set 9 = .ok (.iload_n 3, 1) := dk_29 (dk_at dksX0_set_0 9 rfl rfl)
theorem dX0_set_10 : decode cX0_set 10 = .ok (.invokestatic 15, 3) := dk_184 0 15 (dk_at dksX0_set_0 10 rfl rfl)
theorem dX0_set_13 : decode cX0_set 13 = .ok (.lastore, 1) := dk_80 (dk_at dksX0_set_0 13 rfl rfl)
theorem dX0_set_14 : decode cX0_set 14 = .ok (.return_, 1) := dk_177 (dk_at dksX0_set_0 14 rfl rfl)
abbrev cX0_of : ByteArray := prog_2_method_2_code
def yX0_of : MethodName := ⟨RX0, "of", "(II)J"⟩
def dkwX0_of_0 : List UInt8 := [26, 133, 16, 32, 121, 27, 133, 20, 0, 13, 127, 129, 173]
abbrev dktX0_of_0 : List UInt8 := dkwX0_of_0 ++ []
theorem dksX0_of_0 : cX0_of.data.toList.drop 0 = dktX0_of_0 := by decide +kernel
theorem dX0_of_0 : decode cX0_of 0 = .ok (.iload_n 0, 1) := dk_26 (dk_at dksX0_of_0 0 rfl rfl)
theorem dX0_of_1 : decode cX0_of 1 = .ok (.i2l, 1) := dk_133 (dk_at dksX0_of_0 1 rfl rfl)
theorem dX0_of_2 : decode cX0_of 2 = .ok (.bipush 32, 2) := dk_16 32 (dk_at dksX0_of_0 2 rfl rfl)
theorem dX0_of_4 : decode cX0_of 4 = .ok (.lshl, 1) := dk_121 (dk_at dksX0_of_0 4 rfl rfl)
theorem dX0_of_5 : decode cX0_of 5 = .ok (.iload_n 1, 1) := dk_27 (dk_at dksX0_of_0 5 rfl rfl)
theorem dX0_of_6 : decode cX0_of 6 = .ok (.i2l, 1) := dk_133 (dk_at dksX0_of_0 6 rfl rfl)
theorem dX0_of_7 : decode cX0_of 7 = .ok (.ldc2_w 13, 3) := dk_20 0 13 (dk_at dksX0_of_0 7 rfl rfl)
theorem dX0_of_10 : decode cX0_of 10 = .ok (.land, 1) := dk_127 (dk_at dksX0_of_0 10 rfl rfl)
theorem dX0_of_11 : decode cX0_of 11 = .ok (.lor, 1) := dk_129 (dk_at dksX0_of_0 11 rfl rfl)
theorem dX0_of_12 : decode cX0_of 12 = .ok (.lreturn, 1) := dk_173 (dk_at dksX0_of_0 12 rfl rfl)
abbrev cX0_spread : ByteArray := prog_2_method_4_code
def yX0_spread : MethodName := ⟨RX0, "spread", "(III)V"⟩
def dkwX0_spread_1 : List UInt8 := [22, 4, 80, 22, 4, 20, 0, 19, 105, 29, 133, 97, 55, 4, 132, 6, 1, 167, 255, 226, 177]
abbrev dktX0_spread_1 : List UInt8 := dkwX0_spread_1 ++ []
def dkwX0_spread_0 : List UInt8 := [27, 28, 184, 0, 15, 55, 4, 3, 54, 6, 21, 6, 16, 64, 162, 0, 29, 42, 180, 0, 7, 21, 6]
abbrev dktX0_spread_0 : List UInt8 := dkwX0_spread_0 ++ dktX0_spread_1
theorem dksX0_spread_0 : cX0_spread.data.toList.drop 0 = dktX0_spread_0 := by decide +kernel
theorem dksX0_spread_1 : cX0_spread.data.toList.drop 23 = dktX0_spread_1 := dk_seg dksX0_spread_0 23 rfl rfl
theorem dX0_spread_0 : decode cX0_spread 0 = .ok (.iload_n 1, 1) := dk_27 (dk_at dksX0_spread_0 0 rfl rfl)
theorem dX0_spread_1 : decode cX0_spread 1 = .ok (.iload_n 2, 1) := dk_28 (dk_at dksX0_spread_0 1 rfl rfl)
theorem dX0_spread_2 : decode cX0_spread 2 = .ok (.invokestatic 15, 3) := dk_184 0 15 (dk_at dksX0_spread_0 2 rfl rfl)
theorem dX0_spread_5 : decode cX0_spread 5 = .ok (.lstore 4, 2) := dk_55 4 (dk_at dksX0_spread_0 5 rfl rfl)
theorem dX0_spread_7 : decode cX0_spread 7 = .ok (.iconst 0, 1) := dk_3 (dk_at dksX0_spread_0 7 rfl rfl)
theorem dX0_spread_8 : decode cX0_spread 8 = .ok (.istore 6, 2) := dk_54 6 (dk_at dksX0_spread_0 8 rfl rfl)
theorem dX0_spread_10 : decode cX0_spread 10 = .ok (.iload 6, 2) := dk_21 6 (dk_at dksX0_spread_0 10 rfl rfl)
theorem dX0_spread_12 : decode cX0_spread 12 = .ok (.bipush 64, 2) := dk_16 64 (dk_at dksX0_spread_0 12 rfl rfl)
theorem dX0_spread_14 : decode cX0_spread 14 = .ok (.if_icmp .ge 29, 3) := dk_162 0 29 (dk_at dksX0_spread_0 14 rfl rfl)
theorem dX0_spread_17 : decode cX0_spread 17 = .ok (.aload_n 0, 1) := dk_42 (dk_at dksX0_spread_0 17 rfl rfl)
theorem dX0_spread_18 : decode cX0_spread 18 = .ok (.getfield 7, 3) := dk_180 0 7 (dk_at dksX0_spread_0 18 rfl rfl)
theorem dX0_spread_21 : decode cX0_spread 21 = .ok (.iload 6, 2) := dk_21 6 (dk_at dksX0_spread_0 21 rfl rfl)
theorem dX0_spread_23 : decode cX0_spread 23 = .ok (.lload 4, 2) := dk_22 4 (dk_at dksX0_spread_1 0 rfl rfl)
theorem dX0_spread_25 : decode cX0_spread 25 = .ok (.lastore, 1) := dk_80 (dk_at dksX0_spread_1 2 rfl rfl)
theorem dX0_spread_26 : decode cX0_spread 26 = .ok (.lload 4, 2) := dk_22 4 (dk_at dksX0_spread_1 3 rfl rfl)
theorem dX0_spread_28 : decode cX0_spread 28 = .ok (.ldc2_w 19, 3) := dk_20 0 19 (dk_at dksX0_spread_1 5 rfl rfl)
theorem dX0_spread_31 : decode cX0_spread 31 = .ok (.lmul, 1) := dk_105 (dk_at dksX0_spread_1 8 rfl rfl)
theorem dX0_spread_32 : decode cX0_spread 32 = .ok (.iload_n 3, 1) := dk_29 (dk_at dksX0_spread_1 9 rfl rfl)
theorem dX0_spread_33 : decode cX0_spread 33 = .ok (.i2l, 1) := dk_133 (dk_at dksX0_spread_1 10 rfl rfl)
theorem dX0_spread_34 : decode cX0_spread 34 = .ok (.ladd, 1) := dk_97 (dk_at dksX0_spread_1 11 rfl rfl)
theorem dX0_spread_35 : decode cX0_spread 35 = .ok (.lstore 4, 2) := dk_55 4 (dk_at dksX0_spread_1 12 rfl rfl)
theorem dX0_spread_37 : decode cX0_spread 37 = .ok (.iinc 6 1, 3) := dk_132 6 1 (dk_at dksX0_spread_1 14 rfl rfl)
theorem dX0_spread_40 : decode cX0_spread 40 = .ok (.goto (-30), 3) := dk_167 255 226 (dk_at dksX0_spread_1 17 rfl rfl)
theorem dX0_spread_43 : decode cX0_spread 43 = .ok (.return_, 1) := dk_177 (dk_at dksX0_spread_1 20 rfl rfl)
abbrev cX0_turn : ByteArray := prog_2_method_5_code
def yX0_turn : MethodName := ⟨RX0, "turn", "()V"⟩
def dkwX0_turn_0 : List UInt8 := [16, 64, 188, 11, 76, 43, 42, 180, 0, 7, 184, 0, 21, 42, 43, 181, 0, 7, 177]
abbrev dktX0_turn_0 : List UInt8 := dkwX0_turn_0 ++ []
theorem dksX0_turn_0 : cX0_turn.data.toList.drop 0 = dktX0_turn_0 := by decide +kernel
theorem dX0_turn_0 : decode cX0_turn 0 = .ok (.bipush 64, 2) := dk_16 64 (dk_at dksX0_turn_0 0 rfl rfl)
theorem dX0_turn_2 : decode cX0_turn 2 = .ok (.newarray .long, 2) := dk_188_11 (dk_at dksX0_turn_0 2 rfl rfl)
theorem dX0_turn_4 : decode cX0_turn 4 = .ok (.astore_n 1, 1) := dk_76 (dk_at dksX0_turn_0 4 rfl rfl)
theorem dX0_turn_5 : decode cX0_turn 5 = .ok (.aload_n 1, 1) := dk_43 (dk_at dksX0_turn_0 5 rfl rfl)
theorem dX0_turn_6 : decode cX0_turn 6 = .ok (.aload_n 0, 1) := dk_42 (dk_at dksX0_turn_0 6 rfl rfl)
theorem dX0_turn_7 : decode cX0_turn 7 = .ok (.getfield 7, 3) := dk_180 0 7 (dk_at dksX0_turn_0 7 rfl rfl)
theorem dX0_turn_10 : decode cX0_turn 10 = .ok (.invokestatic 21, 3) := dk_184 0 21 (dk_at dksX0_turn_0 10 rfl rfl)
theorem dX0_turn_13 : decode cX0_turn 13 = .ok (.aload_n 0, 1) := dk_42 (dk_at dksX0_turn_0 13 rfl rfl)
theorem dX0_turn_14 : decode cX0_turn 14 = .ok (.aload_n 1, 1) := dk_43 (dk_at dksX0_turn_0 14 rfl rfl)
theorem dX0_turn_15 : decode cX0_turn 15 = .ok (.putfield 7, 3) := dk_181 0 7 (dk_at dksX0_turn_0 15 rfl rfl)
theorem dX0_turn_18 : decode cX0_turn 18 = .ok (.return_, 1) := dk_177 (dk_at dksX0_turn_0 18 rfl rfl)
abbrev cX0_get : ByteArray := prog_2_method_6_code
def yX0_get : MethodName := ⟨RX0, "get", "(I)J"⟩
def dkwX0_get_0 : List UInt8 := [42, 180, 0, 7, 27, 16, 63, 126, 47, 173]
abbrev dktX0_get_0 : List UInt8 := dkwX0_get_0 ++ []
theorem dksX0_get_0 : cX0_get.data.toList.drop 0 = dktX0_get_0 := by decide +kernel
theorem dX0_get_0 : decode cX0_get 0 = .ok (.aload_n 0, 1) := dk_42 (dk_at dksX0_get_0 0 rfl rfl)
theorem dX0_get_1 : decode cX0_get 1 = .ok (.getfield 7, 3) := dk_180 0 7 (dk_at dksX0_get_0 1 rfl rfl)
theorem dX0_get_4 : decode cX0_get 4 = .ok (.iload_n 1, 1) := dk_27 (dk_at dksX0_get_0 4 rfl rfl)
theorem dX0_get_5 : decode cX0_get 5 = .ok (.bipush 63, 2) := dk_16 63 (dk_at dksX0_get_0 5 rfl rfl)
theorem dX0_get_7 : decode cX0_get 7 = .ok (.iand, 1) := dk_126 (dk_at dksX0_get_0 7 rfl rfl)
theorem dX0_get_8 : decode cX0_get 8 = .ok (.laload, 1) := dk_47 (dk_at dksX0_get_0 8 rfl rfl)
theorem dX0_get_9 : decode cX0_get 9 = .ok (.lreturn, 1) := dk_173 (dk_at dksX0_get_0 9 rfl rfl)
abbrev cX0_bit : ByteArray := prog_2_method_7_code
def yX0_bit : MethodName := ⟨RX0, "bit", "(II)Z"⟩
def dkwX0_bit_1 : List UInt8 := [167, 0, 4, 3, 172]
abbrev dktX0_bit_1 : List UInt8 := dkwX0_bit_1 ++ []
def dkwX0_bit_0 : List UInt8 := [42, 180, 0, 7, 27, 16, 63, 126, 47, 28, 16, 63, 126, 125, 10, 127, 10, 148, 154, 0, 7, 4]
abbrev dktX0_bit_0 : List UInt8 := dkwX0_bit_0 ++ dktX0_bit_1
theorem dksX0_bit_0 : cX0_bit.data.toList.drop 0 = dktX0_bit_0 := by decide +kernel
theorem dksX0_bit_1 : cX0_bit.data.toList.drop 22 = dktX0_bit_1 := dk_seg dksX0_bit_0 22 rfl rfl
theorem dX0_bit_0 : decode cX0_bit 0 = .ok (.aload_n 0, 1) := dk_42 (dk_at dksX0_bit_0 0 rfl rfl)
theorem dX0_bit_1 : decode cX0_bit 1 = .ok (.getfield 7, 3) := dk_180 0 7 (dk_at dksX0_bit_0 1 rfl rfl)
theorem dX0_bit_4 : decode cX0_bit 4 = .ok (.iload_n 1, 1) := dk_27 (dk_at dksX0_bit_0 4 rfl rfl)
theorem dX0_bit_5 : decode cX0_bit 5 = .ok (.bipush 63, 2) := dk_16 63 (dk_at dksX0_bit_0 5 rfl rfl)
theorem dX0_bit_7 : decode cX0_bit 7 = .ok (.iand, 1) := dk_126 (dk_at dksX0_bit_0 7 rfl rfl)
theorem dX0_bit_8 : decode cX0_bit 8 = .ok (.laload, 1) := dk_47 (dk_at dksX0_bit_0 8 rfl rfl)
theorem dX0_bit_9 : decode cX0_bit 9 = .ok (.iload_n 2, 1) := dk_28 (dk_at dksX0_bit_0 9 rfl rfl)
theorem dX0_bit_10 : decode cX0_bit 10 = .ok (.bipush 63, 2) := dk_16 63 (dk_at dksX0_bit_0 10 rfl rfl)
theorem dX0_bit_12 : decode cX0_bit 12 = .ok (.iand, 1) := dk_126 (dk_at dksX0_bit_0 12 rfl rfl)
theorem dX0_bit_13 : decode cX0_bit 13 = .ok (.lushr, 1) := dk_125 (dk_at dksX0_bit_0 13 rfl rfl)
theorem dX0_bit_14 : decode cX0_bit 14 = .ok (.lconst 1, 1) := dk_10 (dk_at dksX0_bit_0 14 rfl rfl)
theorem dX0_bit_15 : decode cX0_bit 15 = .ok (.land, 1) := dk_127 (dk_at dksX0_bit_0 15 rfl rfl)
theorem dX0_bit_16 : decode cX0_bit 16 = .ok (.lconst 1, 1) := dk_10 (dk_at dksX0_bit_0 16 rfl rfl)
theorem dX0_bit_17 : decode cX0_bit 17 = .ok (.lcmp, 1) := dk_148 (dk_at dksX0_bit_0 17 rfl rfl)
theorem dX0_bit_18 : decode cX0_bit 18 = .ok (.ifCond .ne 7, 3) := dk_154 0 7 (dk_at dksX0_bit_0 18 rfl rfl)
theorem dX0_bit_21 : decode cX0_bit 21 = .ok (.iconst 1, 1) := dk_4 (dk_at dksX0_bit_0 21 rfl rfl)
theorem dX0_bit_22 : decode cX0_bit 22 = .ok (.goto 4, 3) := dk_167 0 4 (dk_at dksX0_bit_1 0 rfl rfl)
theorem dX0_bit_25 : decode cX0_bit 25 = .ok (.iconst 0, 1) := dk_3 (dk_at dksX0_bit_1 3 rfl rfl)
theorem dX0_bit_26 : decode cX0_bit 26 = .ok (.ireturn, 1) := dk_172 (dk_at dksX0_bit_1 4 rfl rfl)
theorem q3 : (Jvm.Cond.initialized "BitSquareDesk") ∈ lw_all := lw_g (lw_at lw_m0 1 rfl) rfl
theorem q8 : (Jvm.Cond.instantiable "BitSquareDesk" (1 : Nat)) ∈ lw_all := lw_g (lw_at lw_m0 6 rfl) rfl
theorem q10 : (Jvm.Cond.instanceMethod ({ cls := "BitSquareDesk", name := "<init>", desc := "()V" } : Jvm.MethodName)) ∈ lw_all := lw_g (lw_at lw_m0 8 rfl) rfl
theorem q11 : (Jvm.Cond.code ({ cls := "BitSquareDesk", name := "<init>", desc := "()V" } : Jvm.MethodName) prog_2_method_1_code (1 : Nat) (Option.none : Option Jvm.ClassFile.FieldType)) ∈ lw_all := lw_g (lw_at lw_m0 9 rfl) rfl
theorem q12 : (Jvm.Cond.methodLink "BitSquareDesk" (1 : Nat) ({ cls := "java/lang/Object", name := "<init>", desc := "()V" } : Jvm.MethodName)) ∈ lw_all := lw_g (lw_at lw_m0 10 rfl) rfl
theorem q15 : (Jvm.Cond.fieldLink "BitSquareDesk" (7 : Nat) "BitSquareDesk" "rows" "[J") ∈ lw_all := lw_g (lw_at lw_m0 13 rfl) rfl
theorem q16 : (Jvm.Cond.lays "BitSquareDesk" "BitSquareDesk" "rows" "[J") ∈ lw_all := lw_g (lw_at lw_m0 14 rfl) rfl
theorem q17 : (Jvm.Cond.soleField "BitSquareDesk" "rows") ∈ lw_all := lw_g (lw_at lw_m0 15 rfl) rfl
theorem q18 : (Jvm.Cond.superclass "BitSquareDesk" "java/lang/Object") ∈ lw_all := lw_g (lw_at lw_m0 16 rfl) rfl
theorem q21 : (Jvm.Cond.instanceMethod ({ cls := "BitSquareDesk", name := "set", desc := "(III)V" } : Jvm.MethodName)) ∈ lw_all := lw_g (lw_at lw_m0 19 rfl) rfl
theorem q22 : (Jvm.Cond.selects "BitSquareDesk" ({ cls := "BitSquareDesk", name := "set", desc := "(III)V" } : Jvm.MethodName) ({ cls := "BitSquareDesk", name := "set", desc := "(III)V" } : Jvm.MethodName)) ∈ lw_all := lw_g (lw_at lw_m0 20 rfl) rfl
theorem q23 : (Jvm.Cond.code ({ cls := "BitSquareDesk", name := "set", desc := "(III)V" } : Jvm.MethodName) prog_2_method_3_code (4 : Nat) (Option.none : Option Jvm.ClassFile.FieldType)) ∈ lw_all := lw_g (lw_at lw_m0 21 rfl) rfl
theorem q24 : (Jvm.Cond.methodLink "BitSquareDesk" (15 : Nat) ({ cls := "BitSquareDesk", name := "of", desc := "(II)J" } : Jvm.MethodName)) ∈ lw_all := lw_g (lw_at lw_m0 22 rfl) rfl
theorem q25 : (Jvm.Cond.static ({ cls := "BitSquareDesk", name := "of", desc := "(II)J" } : Jvm.MethodName)) ∈ lw_all := lw_g (lw_at lw_m0 23 rfl) rfl
theorem q26 : (Jvm.Cond.code ({ cls := "BitSquareDesk", name := "of", desc := "(II)J" } : Jvm.MethodName) prog_2_method_2_code (2 : Nat) (Option.some Jvm.ClassFile.FieldType.long)) ∈ lw_all := lw_g (lw_at lw_m0 24 rfl) rfl
theorem q27 : (Jvm.Cond.constantLong "BitSquareDesk" (13 : Nat) (4294967295 : Int64)) ∈ lw_all := lw_g (lw_at lw_m0 25 rfl) rfl
theorem q29 : (Jvm.Cond.instanceMethod ({ cls := "BitSquareDesk", name := "spread", desc := "(III)V" } : Jvm.MethodName)) ∈ lw_all := lw_g (lw_at lw_m0 27 rfl) rfl
theorem q30 : (Jvm.Cond.selects "BitSquareDesk" ({ cls := "BitSquareDesk", name := "spread", desc := "(III)V" } : Jvm.MethodName) ({ cls := "BitSquareDesk", name := "spread", desc := "(III)V" } : Jvm.MethodName)) ∈ lw_all := lw_g (lw_at lw_m0 28 rfl) rfl
theorem q31 : (Jvm.Cond.code ({ cls := "BitSquareDesk", name := "spread", desc := "(III)V" } : Jvm.MethodName) prog_2_method_4_code (7 : Nat) (Option.none : Option Jvm.ClassFile.FieldType)) ∈ lw_all := lw_g (lw_at lw_m0 29 rfl) rfl
theorem q32 : (Jvm.Cond.constantLong "BitSquareDesk" (19 : Nat) (6364136223846793005 : Int64)) ∈ lw_all := lw_g (lw_at lw_m0 30 rfl) rfl
theorem q34 : (Jvm.Cond.instanceMethod ({ cls := "BitSquareDesk", name := "turn", desc := "()V" } : Jvm.MethodName)) ∈ lw_all := lw_g (lw_at lw_m0 32 rfl) rfl
theorem q35 : (Jvm.Cond.selects "BitSquareDesk" ({ cls := "BitSquareDesk", name := "turn", desc := "()V" } : Jvm.MethodName) ({ cls := "BitSquareDesk", name := "turn", desc := "()V" } : Jvm.MethodName)) ∈ lw_all := lw_g (lw_at lw_m0 33 rfl) rfl
theorem q36 : (Jvm.Cond.code ({ cls := "BitSquareDesk", name := "turn", desc := "()V" } : Jvm.MethodName) prog_2_method_5_code (2 : Nat) (Option.none : Option Jvm.ClassFile.FieldType)) ∈ lw_all := lw_g (lw_at lw_m0 34 rfl) rfl
theorem q37 : (Jvm.Cond.methodLink "BitSquareDesk" (21 : Nat) ({ cls := "BENES", name := "transpose_64x64", desc := "([J[J)V" } : Jvm.MethodName)) ∈ lw_all := lw_g (lw_at lw_m0 35 rfl) rfl
theorem q49 : (Jvm.Cond.instanceMethod ({ cls := "BitSquareDesk", name := "get", desc := "(I)J" } : Jvm.MethodName)) ∈ lw_all := lw_g (lw_at lw_m0 47 rfl) rfl
theorem q50 : (Jvm.Cond.selects "BitSquareDesk" ({ cls := "BitSquareDesk", name := "get", desc := "(I)J" } : Jvm.MethodName) ({ cls := "BitSquareDesk", name := "get", desc := "(I)J" } : Jvm.MethodName)) ∈ lw_all := lw_g (lw_at lw_m0 48 rfl) rfl
theorem q51 : (Jvm.Cond.code ({ cls := "BitSquareDesk", name := "get", desc := "(I)J" } : Jvm.MethodName) prog_2_method_6_code (2 : Nat) (Option.some Jvm.ClassFile.FieldType.long)) ∈ lw_all := lw_g (lw_at lw_m0 49 rfl) rfl
theorem q53 : (Jvm.Cond.instanceMethod ({ cls := "BitSquareDesk", name := "bit", desc := "(II)Z" } : Jvm.MethodName)) ∈ lw_all := lw_g (lw_at lw_m0 51 rfl) rfl
theorem q54 : (Jvm.Cond.selects "BitSquareDesk" ({ cls := "BitSquareDesk", name := "bit", desc := "(II)Z" } : Jvm.MethodName) ({ cls := "BitSquareDesk", name := "bit", desc := "(II)Z" } : Jvm.MethodName)) ∈ lw_all := lw_g (lw_at lw_m0 52 rfl) rfl
theorem q55 : (Jvm.Cond.code ({ cls := "BitSquareDesk", name := "bit", desc := "(II)Z" } : Jvm.MethodName) prog_2_method_7_code (3 : Nat) (Option.some Jvm.ClassFile.FieldType.boolean)) ∈ lw_all := lw_g (lw_at lw_m0 53 rfl) rfl
theorem in_X0 : ∀ w ∈ wsX00, w ∈ lw_all := lw_in wsX00 [16] (by decide +kernel) (by decide +kernel)
/-! BitSquareDeskModel -/
set_option maxRecDepth 100000
def RX1 : String := "BitSquareDeskModel"
def TX1 : u_T := fun k => match k with
  | 0 => ("BitSquareDeskModel", "bits", "[[Z", true)
  | _ => ("BitSquareDeskModel", "isTurned", "Z", false)
def tyX1 : Nat → FieldType := fun k => match k with
  | 0 => .array (.array .boolean)
  | _ => .boolean
abbrev wsX10 : List Cond := u_ws RX1 TX1 2
theorem nmX1 : ∀ a, a < 2 → ∀ b, b < 2 → a ≠ b → (TX1 a).2.1 ≠ (TX1 b).2.1 := by decide +kernel
theorem tyX1_ok : ∀ k, k < 2 → parseFieldDescriptor (TX1 k).2.2.1 = some (tyX1 k) := by decide +kernel
abbrev cX1_init : ByteArray := prog_4_method_1_code
def yX1_init : MethodName := ⟨RX1, "<init>", "()V"⟩
def dkwX1_init_0 : List UInt8 := [42, 183, 0, 1, 42, 16, 64, 16, 64, 197, 0, 9, 2, 181, 0, 11, 177]
abbrev dktX1_init_0 : List UInt8 := dkwX1_init_0 ++ []
theorem dksX1_init_0 : cX1_init.data.toList.drop 0 = dktX1_init_0 := by decide +kernel
theorem dX1_init_0 : decode cX1_init 0 = .ok (.aload_n 0, 1) := dk_42 (dk_at dksX1_init_0 0 rfl rfl)
theorem dX1_init_1 : decode cX1_init 1 = .ok (.invokespecial 1, 3) := dk_183 0 1 (dk_at dksX1_init_0 1 rfl rfl)
theorem dX1_init_4 : decode cX1_init 4 = .ok (.aload_n 0, 1) := dk_42 (dk_at dksX1_init_0 4 rfl rfl)
theorem dX1_init_5 : decode cX1_init 5 = .ok (.bipush 64, 2) := dk_16 64 (dk_at dksX1_init_0 5 rfl rfl)
theorem dX1_init_7 : decode cX1_init 7 = .ok (.bipush 64, 2) := dk_16 64 (dk_at dksX1_init_0 7 rfl rfl)
theorem dX1_init_9 : decode cX1_init 9 = .ok (.multianewarray 9 2, 4) := by decide +kernel
theorem dX1_init_13 : decode cX1_init 13 = .ok (.putfield 11, 3) := dk_181 0 11 (dk_at dksX1_init_0 13 rfl rfl)
theorem dX1_init_16 : decode cX1_init 16 = .ok (.return_, 1) := dk_177 (dk_at dksX1_init_0 16 rfl rfl)
abbrev cX1_set : ByteArray := prog_4_method_5_code
def yX1_set : MethodName := ⟨RX1, "set", "(III)V"⟩
def dkwX1_set_0 : List UInt8 := [42, 27, 16, 63, 126, 28, 29, 184, 0, 22, 182, 0, 26, 177]
abbrev dktX1_set_0 : List UInt8 := dkwX1_set_0 ++ []
theorem dksX1_set_0 : cX1_set.data.toList.drop 0 = dktX1_set_0 := by decide +kernel
theorem dX1_set_0 : decode cX1_set 0 = .ok (.aload_n 0, 1) := dk_42 (dk_at dksX1_set_0 0 rfl rfl)
theorem dX1_set_1 : decode cX1_set 1 = .ok (.iload_n 1, 1) := dk_27 (dk_at dksX1_set_0 1 rfl rfl)
theorem dX1_set_2 : decode cX1_set 2 = .ok (.bipush 63, 2) := dk_16 63 (dk_at dksX1_set_0 2 rfl rfl)
theorem dX1_set_4 : decode cX1_set 4 = .ok (.iand, 1) := dk_126 (dk_at dksX1_set_0 4 rfl rfl)
theorem dX1_set_5 : decode cX1_set 5 = .ok (.iload_n 2, 1) := dk_28 (dk_at dksX1_set_0 5 rfl rfl)
theorem dX1_set_6 : decode cX1_set 6 = .ok (.iload_n 3, 1) := dk_29 (dk_at dksX1_set_0 6 rfl rfl)
theorem dX1_set_7 : decode cX1_set 7 = .ok (.invokestatic 22, 3) := dk_184 0 22 (dk_at dksX1_set_0 7 rfl rfl)
theorem dX1_set_10 : decode cX1_set 10 = .ok (.invokevirtual 26, 3) := dk_182 0 26 (dk_at dksX1_set_0 10 rfl rfl)
theorem dX1_set_13 : decode cX1_set 13 = .ok (.return_, 1) := dk_177 (dk_at dksX1_set_0 13 rfl rfl)
abbrev cX1_whole : ByteArray := prog_4_method_4_code
def yX1_whole : MethodName := ⟨RX1, "whole", "(II)J"⟩
def dkwX1_whole_0 : List UInt8 := [20, 0, 18, 26, 133, 105, 27, 133, 20, 0, 20, 127, 97, 173]
abbrev dktX1_whole_0 : List UInt8 := dkwX1_whole_0 ++ []
theorem dksX1_whole_0 : cX1_whole.data.toList.drop 0 = dktX1_whole_0 := by decide +kernel
theorem dX1_whole_0 : decode cX1_whole 0 = .ok (.ldc2_w 18, 3) := dk_20 0 18 (dk_at dksX1_whole_0 0 rfl rfl)
theorem dX1_whole_3 : decode cX1_whole 3 = .ok (.iload_n 0, 1) := dk_26 (dk_at dksX1_whole_0 3 rfl rfl)
theorem dX1_whole_4 : decode cX1_whole 4 = .ok (.i2l, 1) := dk_133 (dk_at dksX1_whole_0 4 rfl rfl)
theorem dX1_whole_5 : decode cX1_whole 5 = .ok (.lmul, 1) := dk_105 (dk_at dksX1_whole_0 5 rfl rfl)
theorem dX1_whole_6 : decode cX1_whole 6 = .ok (.iload_n 1, 1) := dk_27 (dk_at dksX1_whole_0 6 rfl rfl)
theorem dX1_whole_7 : decode cX1_whole 7 = .ok (.i2l, 1) := dk_133 (dk_at dksX1_whole_0 7 rfl rfl)
theorem dX1_whole_8 : decode cX1_whole 8 = .ok (.ldc2_w 20, 3) := dk_20 0 20 (dk_at dksX1_whole_0 8 rfl rfl)
theorem dX1_whole_11 : decode cX1_whole 11 = .ok (.land, 1) := dk_127 (dk_at dksX1_whole_0 11 rfl rfl)
theorem dX1_whole_12 : decode cX1_whole 12 = .ok (.ladd, 1) := dk_97 (dk_at dksX1_whole_0 12 rfl rfl)
theorem dX1_whole_13 : decode cX1_whole 13 = .ok (.lreturn, 1) := dk_173 (dk_at dksX1_whole_0 13 rfl rfl)
abbrev cX1_lay : ByteArray := prog_4_method_2_code
def yX1_lay : MethodName := ⟨RX1, "lay", "(IJ)V"⟩
def dkwX1_lay_2 : List UInt8 := [167, 0, 14, 42, 180, 0, 11, 27, 50, 21, 4, 21, 5, 84, 132, 4, 1, 167, 255, 196, 177]
abbrev dktX1_lay_2 : List UInt8 := dkwX1_lay_2 ++ []
def dkwX1_lay_1 : List UInt8 := [167, 0, 4, 3, 54, 5, 42, 180, 0, 14, 153, 0, 17, 42, 180, 0, 11, 21, 4, 50, 27, 21, 5, 84]
abbrev dktX1_lay_1 : List UInt8 := dkwX1_lay_1 ++ dktX1_lay_2
def dkwX1_lay_0 : List UInt8 := [3, 54, 4, 21, 4, 16, 64, 162, 0, 59, 32, 21, 4, 123, 10, 127, 10, 148, 154, 0, 7, 4]
abbrev dktX1_lay_0 : List UInt8 := dkwX1_lay_0 ++ dktX1_lay_1
theorem dksX1_lay_0 : cX1_lay.data.toList.drop 0 = dktX1_lay_0 := by decide +kernel
theorem dksX1_lay_1 : cX1_lay.data.toList.drop 22 = dktX1_lay_1 := dk_seg dksX1_lay_0 22 rfl rfl
theorem dksX1_lay_2 : cX1_lay.data.toList.drop 46 = dktX1_lay_2 := dk_seg dksX1_lay_1 24 rfl rfl
theorem dX1_lay_0 : decode cX1_lay 0 = .ok (.iconst 0, 1) := dk_3 (dk_at dksX1_lay_0 0 rfl rfl)
theorem dX1_lay_1 : decode cX1_lay 1 = .ok (.istore 4, 2) := dk_54 4 (dk_at dksX1_lay_0 1 rfl rfl)
theorem dX1_lay_3 : decode cX1_lay 3 = .ok (.iload 4, 2) := dk_21 4 (dk_at dksX1_lay_0 3 rfl rfl)
theorem dX1_lay_5 : decode cX1_lay 5 = .ok (.bipush 64, 2) := dk_16 64 (dk_at dksX1_lay_0 5 rfl rfl)
theorem dX1_lay_7 : decode cX1_lay 7 = .ok (.if_icmp .ge 59, 3) := dk_162 0 59 (dk_at dksX1_lay_0 7 rfl rfl)
theorem dX1_lay_10 : decode cX1_lay 10 = .ok (.lload_n 2, 1) := dk_32 (dk_at dksX1_lay_0 10 rfl rfl)
theorem dX1_lay_11 : decode cX1_lay 11 = .ok (.iload 4, 2) := dk_21 4 (dk_at dksX1_lay_0 11 rfl rfl)
theorem dX1_lay_13 : decode cX1_lay 13 = .ok (.lshr, 1) := dk_123 (dk_at dksX1_lay_0 13 rfl rfl)
theorem dX1_lay_14 : decode cX1_lay 14 = .ok (.lconst 1, 1) := dk_10 (dk_at dksX1_lay_0 14 rfl rfl)
theorem dX1_lay_15 : decode cX1_lay 15 = .ok (.land, 1) := dk_127 (dk_at dksX1_lay_0 15 rfl rfl)
theorem dX1_lay_16 : decode cX1_lay 16 = .ok (.lconst 1, 1) := dk_10 (dk_at dksX1_lay_0 16 rfl rfl)
theorem dX1_lay_17 : decode cX1_lay 17 = .ok (.lcmp, 1) := dk_148 (dk_at dksX1_lay_0 17 rfl rfl)
theorem dX1_lay_18 : decode cX1_lay 18 = .ok (.ifCond .ne 7, 3) := dk_154 0 7 (dk_at dksX1_lay_0 18 rfl rfl)
theorem dX1_lay_21 : decode cX1_lay 21 = .ok (.iconst 1, 1) := dk_4 (dk_at dksX1_lay_0 21 rfl rfl)
theorem dX1_lay_22 : decode cX1_lay 22 = .ok (.goto 4, 3) := dk_167 0 4 (dk_at dksX1_lay_1 0 rfl rfl)
theorem dX1_lay_25 : decode cX1_lay 25 = .ok (.iconst 0, 1) := dk_3 (dk_at dksX1_lay_1 3 rfl rfl)
theorem dX1_lay_26 : decode cX1_lay 26 = .ok (.istore 5, 2) := dk_54 5 (dk_at dksX1_lay_1 4 rfl rfl)
theorem dX1_lay_28 : decode cX1_lay 28 = .ok (.aload_n 0, 1) := dk_42 (dk_at dksX1_lay_1 6 rfl rfl)
theorem dX1_lay_29 : decode cX1_lay 29 = .ok (.getfield 14, 3) := dk_180 0 14 (dk_at dksX1_lay_1 7 rfl rfl)
theorem dX1_lay_32 : decode cX1_lay 32 = .ok (.ifCond .eq 17, 3) := dk_153 0 17 (dk_at dksX1_lay_1 10 rfl rfl)
theorem dX1_lay_35 : decode cX1_lay 35 = .ok (.aload_n 0, 1) := dk_42 (dk_at dksX1_lay_1 13 rfl rfl)
theorem dX1_lay_36 : decode cX1_lay 36 = .ok (.getfield 11, 3) := dk_180 0 11 (dk_at dksX1_lay_1 14 rfl rfl)
theorem dX1_lay_39 : decode cX1_lay 39 = .ok (.iload 4, 2) := dk_21 4 (dk_at dksX1_lay_1 17 rfl rfl)
theorem dX1_lay_41 : decode cX1_lay 41 = .ok (.aaload, 1) := dk_50 (dk_at dksX1_lay_1 19 rfl rfl)
theorem dX1_lay_42 : decode cX1_lay 42 = .ok (.iload_n 1, 1) := dk_27 (dk_at dksX1_lay_1 20 rfl rfl)
theorem dX1_lay_43 : decode cX1_lay 43 = .ok (.iload 5, 2) := dk_21 5 (dk_at dksX1_lay_1 21 rfl rfl)
theorem dX1_lay_45 : decode cX1_lay 45 = .ok (.bastore, 1) := dk_84 (dk_at dksX1_lay_1 23 rfl rfl)
theorem dX1_lay_46 : decode cX1_lay 46 = .ok (.goto 14, 3) := dk_167 0 14 (dk_at dksX1_lay_2 0 rfl rfl)
theorem dX1_lay_49 : decode cX1_lay 49 = .ok (.aload_n 0, 1) := dk_42 (dk_at dksX1_lay_2 3 rfl rfl)
theorem dX1_lay_50 : decode cX1_lay 50 = .ok (.getfield 11, 3) := dk_180 0 11 (dk_at dksX1_lay_2 4 rfl rfl)
theorem dX1_lay_53 : decode cX1_lay 53 = .ok (.iload_n 1, 1) := dk_27 (dk_at dksX1_lay_2 7 rfl rfl)
theorem dX1_lay_54 : decode cX1_lay 54 = .ok (.aaload, 1) := dk_50 (dk_at dksX1_lay_2 8 rfl rfl)
theorem dX1_lay_55 : decode cX1_lay 55 = .ok (.iload 4, 2) := dk_21 4 (dk_at dksX1_lay_2 9 rfl rfl)
theorem dX1_lay_57 : decode cX1_lay 57 = .ok (.iload 5, 2) := dk_21 5 (dk_at dksX1_lay_2 11 rfl rfl)
theorem dX1_lay_59 : decode cX1_lay 59 = .ok (.bastore, 1) := dk_84 (dk_at dksX1_lay_2 13 rfl rfl)
theorem dX1_lay_60 : decode cX1_lay 60 = .ok (.iinc 4 1, 3) := dk_132 4 1 (dk_at dksX1_lay_2 14 rfl rfl)
theorem dX1_lay_63 : decode cX1_lay 63 = .ok (.goto (-60), 3) := dk_167 255 196 (dk_at dksX1_lay_2 17 rfl rfl)
theorem dX1_lay_66 : decode cX1_lay 66 = .ok (.return_, 1) := dk_177 (dk_at dksX1_lay_2 20 rfl rfl)
abbrev cX1_spread : ByteArray := prog_4_method_6_code
def yX1_spread : MethodName := ⟨RX1, "spread", "(III)V"⟩
def dkwX1_spread_1 : List UInt8 := [182, 0, 26, 20, 0, 30, 22, 4, 105, 29, 133, 97, 55, 4, 132, 6, 1, 167, 255, 227, 177]
abbrev dktX1_spread_1 : List UInt8 := dkwX1_spread_1 ++ []
def dkwX1_spread_0 : List UInt8 := [27, 28, 184, 0, 22, 55, 4, 3, 54, 6, 21, 6, 16, 64, 162, 0, 28, 42, 21, 6, 22, 4]
abbrev dktX1_spread_0 : List UInt8 := dkwX1_spread_0 ++ dktX1_spread_1
theorem dksX1_spread_0 : cX1_spread.data.toList.drop 0 = dktX1_spread_0 := by decide +kernel
theorem dksX1_spread_1 : cX1_spread.data.toList.drop 22 = dktX1_spread_1 := dk_seg dksX1_spread_0 22 rfl rfl
theorem dX1_spread_0 : decode cX1_spread 0 = .ok (.iload_n 1, 1) := dk_27 (dk_at dksX1_spread_0 0 rfl rfl)
theorem dX1_spread_1 : decode cX1_spread 1 = .ok (.iload_n 2, 1) := dk_28 (dk_at dksX1_spread_0 1 rfl rfl)
theorem dX1_spread_2 : decode cX1_spread 2 = .ok (.invokestatic 22, 3) := dk_184 0 22 (dk_at dksX1_spread_0 2 rfl rfl)
theorem dX1_spread_5 : decode cX1_spread 5 = .ok (.lstore 4, 2) := dk_55 4 (dk_at dksX1_spread_0 5 rfl rfl)
theorem dX1_spread_7 : decode cX1_spread 7 = .ok (.iconst 0, 1) := dk_3 (dk_at dksX1_spread_0 7 rfl rfl)
theorem dX1_spread_8 : decode cX1_spread 8 = .ok (.istore 6, 2) := dk_54 6 (dk_at dksX1_spread_0 8 rfl rfl)
theorem dX1_spread_10 : decode cX1_spread 10 = .ok (.iload 6, 2) := dk_21 6 (dk_at dksX1_spread_0 10 rfl rfl)
theorem dX1_spread_12 : decode cX1_spread 12 = .ok (.bipush 64, 2) := dk_16 64 (dk_at dksX1_spread_0 12 rfl rfl)
theorem dX1_spread_14 : decode cX1_spread 14 = .ok (.if_icmp .ge 28, 3) := dk_162 0 28 (dk_at dksX1_spread_0 14 rfl rfl)
theorem dX1_spread_17 : decode cX1_spread 17 = .ok (.aload_n 0, 1) := dk_42 (dk_at dksX1_spread_0 17 rfl rfl)
theorem dX1_spread_18 : decode cX1_spread 18 = .ok (.iload 6, 2) := dk_21 6 (dk_at dksX1_spread_0 18 rfl rfl)
theorem dX1_spread_20 : decode cX1_spread 20 = .ok (.lload 4, 2) := dk_22 4 (dk_at dksX1_spread_0 20 rfl rfl)
theorem dX1_spread_22 : decode cX1_spread 22 = .ok (.invokevirtual 26, 3) := dk_182 0 26 (dk_at dksX1_spread_1 0 rfl rfl)
theorem dX1_spread_25 : decode cX1_spread 25 = .ok (.ldc2_w 30, 3) := dk_20 0 30 (dk_at dksX1_spread_1 3 rfl rfl)
theorem dX1_spread_28 : decode cX1_spread 28 = .ok (.lload 4, 2) := dk_22 4 (dk_at dksX1_spread_1 6 rfl rfl)
theorem dX1_spread_30 : decode cX1_spread 30 = .ok (.lmul, 1) := dk_105 (dk_at dksX1_spread_1 8 rfl rfl)
theorem dX1_spread_31 : decode cX1_spread 31 = .ok (.iload_n 3, 1) := dk_29 (dk_at dksX1_spread_1 9 rfl rfl)
theorem dX1_spread_32 : decode cX1_spread 32 = .ok (.i2l, 1) := dk_133 (dk_at dksX1_spread_1 10 rfl rfl)
theorem dX1_spread_33 : decode cX1_spread 33 = .ok (.ladd, 1) := dk_97 (dk_at dksX1_spread_1 11 rfl rfl)
theorem dX1_spread_34 : decode cX1_spread 34 = .ok (.lstore 4, 2) := dk_55 4 (dk_at dksX1_spread_1 12 rfl rfl)
theorem dX1_spread_36 : decode cX1_spread 36 = .ok (.iinc 6 1, 3) := dk_132 6 1 (dk_at dksX1_spread_1 14 rfl rfl)
theorem dX1_spread_39 : decode cX1_spread 39 = .ok (.goto (-29), 3) := dk_167 255 227 (dk_at dksX1_spread_1 17 rfl rfl)
theorem dX1_spread_42 : decode cX1_spread 42 = .ok (.return_, 1) := dk_177 (dk_at dksX1_spread_1 20 rfl rfl)
abbrev cX1_turn : ByteArray := prog_4_method_7_code
def yX1_turn : MethodName := ⟨RX1, "turn", "()V"⟩
def dkwX1_turn_0 : List UInt8 := [42, 42, 180, 0, 14, 154, 0, 7, 4, 167, 0, 4, 3, 181, 0, 14, 177]
abbrev dktX1_turn_0 : List UInt8 := dkwX1_turn_0 ++ []
theorem dksX1_turn_0 : cX1_turn.data.toList.drop 0 = dktX1_turn_0 := by decide +kernel
theorem dX1_turn_0 : decode cX1_turn 0 = .ok (.aload_n 0, 1) := dk_42 (dk_at dksX1_turn_0 0 rfl rfl)
theorem dX1_turn_1 : decode cX1_turn 1 = .ok (.aload_n 0, 1) := dk_42 (dk_at dksX1_turn_0 1 rfl rfl)
theorem dX1_turn_2 : decode cX1_turn 2 = .ok (.getfield 14, 3) := dk_180 0 14 (dk_at dksX1_turn_0 2 rfl rfl)
theorem dX1_turn_5 : decode cX1_turn 5 = .ok (.ifCond .ne 7, 3) := dk_154 0 7 (dk_at dksX1_turn_0 5 rfl rfl)
theorem dX1_turn_8 : decode cX1_turn 8 = .ok (.iconst 1, 1) := dk_4 (dk_at dksX1_turn_0 8 rfl rfl)
theorem dX1_turn_9 : decode cX1_turn 9 = .ok (.goto 4, 3) := dk_167 0 4 (dk_at dksX1_turn_0 9 rfl rfl)
theorem dX1_turn_12 : decode cX1_turn 12 = .ok (.iconst 0, 1) := dk_3 (dk_at dksX1_turn_0 12 rfl rfl)
theorem dX1_turn_13 : decode cX1_turn 13 = .ok (.putfield 14, 3) := dk_181 0 14 (dk_at dksX1_turn_0 13 rfl rfl)
theorem dX1_turn_16 : decode cX1_turn 16 = .ok (.return_, 1) := dk_177 (dk_at dksX1_turn_0 16 rfl rfl)
abbrev cX1_get : ByteArray := prog_4_method_8_code
def yX1_get : MethodName := ⟨RX1, "get", "(I)J"⟩
def dkwX1_get_1 : List UInt8 := [182, 0, 34, 153, 0, 7, 10, 167, 0, 4, 9, 97, 65, 132, 4, 255, 167, 255, 223, 32, 173]
abbrev dktX1_get_1 : List UInt8 := dkwX1_get_1 ++ []
def dkwX1_get_0 : List UInt8 := [9, 65, 16, 63, 54, 4, 21, 4, 155, 0, 34, 20, 0, 32, 32, 105, 42, 27, 16, 63, 126, 21, 4]
abbrev dktX1_get_0 : List UInt8 := dkwX1_get_0 ++ dktX1_get_1
theorem dksX1_get_0 : cX1_get.data.toList.drop 0 = dktX1_get_0 := by decide +kernel
theorem dksX1_get_1 : cX1_get.data.toList.drop 23 = dktX1_get_1 := dk_seg dksX1_get_0 23 rfl rfl
theorem dX1_get_0 : decode cX1_get 0 = .ok (.lconst 0, 1) := dk_9 (dk_at dksX1_get_0 0 rfl rfl)
theorem dX1_get_1 : decode cX1_get 1 = .ok (.lstore_n 2, 1) := dk_65 (dk_at dksX1_get_0 1 rfl rfl)
theorem dX1_get_2 : decode cX1_get 2 = .ok (.bipush 63, 2) := dk_16 63 (dk_at dksX1_get_0 2 rfl rfl)
theorem dX1_get_4 : decode cX1_get 4 = .ok (.istore 4, 2) := dk_54 4 (dk_at dksX1_get_0 4 rfl rfl)
theorem dX1_get_6 : decode cX1_get 6 = .ok (.iload 4, 2) := dk_21 4 (dk_at dksX1_get_0 6 rfl rfl)
theorem dX1_get_8 : decode cX1_get 8 = .ok (.ifCond .lt 34, 3) := dk_155 0 34 (dk_at dksX1_get_0 8 rfl rfl)
theorem dX1_get_11 : decode cX1_get 11 = .ok (.ldc2_w 32, 3) := dk_20 0 32 (dk_at dksX1_get_0 11 rfl rfl)
theorem dX1_get_14 : decode cX1_get 14 = .ok (.lload_n 2, 1) := dk_32 (dk_at dksX1_get_0 14 rfl rfl)
theorem dX1_get_15 : decode cX1_get 15 = .ok (.lmul, 1) := dk_105 (dk_at dksX1_get_0 15 rfl rfl)
theorem dX1_get_16 : decode cX1_get 16 = .ok (.aload_n 0, 1) := dk_42 (dk_at dksX1_get_0 16 rfl rfl)
theorem dX1_get_17 : decode cX1_get 17 = .ok (.iload_n 1, 1) := dk_27 (dk_at dksX1_get_0 17 rfl rfl)
theorem dX1_get_18 : decode cX1_get 18 = .ok (.bipush 63, 2) := dk_16 63 (dk_at dksX1_get_0 18 rfl rfl)
theorem dX1_get_20 : decode cX1_get 20 = .ok (.iand, 1) := dk_126 (dk_at dksX1_get_0 20 rfl rfl)
theorem dX1_get_21 : decode cX1_get 21 = .ok (.iload 4, 2) := dk_21 4 (dk_at dksX1_get_0 21 rfl rfl)
theorem dX1_get_23 : decode cX1_get 23 = .ok (.invokevirtual 34, 3) := dk_182 0 34 (dk_at dksX1_get_1 0 rfl rfl)
theorem dX1_get_26 : decode cX1_get 26 = .ok (.ifCond .eq 7, 3) := dk_153 0 7 (dk_at dksX1_get_1 3 rfl rfl)
theorem dX1_get_29 : decode cX1_get 29 = .ok (.lconst 1, 1) := dk_10 (dk_at dksX1_get_1 6 rfl rfl)
theorem dX1_get_30 : decode cX1_get 30 = .ok (.goto 4, 3) := dk_167 0 4 (dk_at dksX1_get_1 7 rfl rfl)
theorem dX1_get_33 : decode cX1_get 33 = .ok (.lconst 0, 1) := dk_9 (dk_at dksX1_get_1 10 rfl rfl)
theorem dX1_get_34 : decode cX1_get 34 = .ok (.ladd, 1) := dk_97 (dk_at dksX1_get_1 11 rfl rfl)
theorem dX1_get_35 : decode cX1_get 35 = .ok (.lstore_n 2, 1) := dk_65 (dk_at dksX1_get_1 12 rfl rfl)
theorem dX1_get_36 : decode cX1_get 36 = .ok (.iinc 4 (-1), 3) := dk_132 4 255 (dk_at dksX1_get_1 13 rfl rfl)
theorem dX1_get_39 : decode cX1_get 39 = .ok (.goto (-33), 3) := dk_167 255 223 (dk_at dksX1_get_1 16 rfl rfl)
theorem dX1_get_42 : decode cX1_get 42 = .ok (.lload_n 2, 1) := dk_32 (dk_at dksX1_get_1 19 rfl rfl)
theorem dX1_get_43 : decode cX1_get 43 = .ok (.lreturn, 1) := dk_173 (dk_at dksX1_get_1 20 rfl rfl)
abbrev cX1_is : ByteArray := prog_4_method_3_code
def yX1_is : MethodName := ⟨RX1, "is", "(II)Z"⟩
def dkwX1_is_1 : List UInt8 := [28, 51, 172]
abbrev dktX1_is_1 : List UInt8 := dkwX1_is_1 ++ []
def dkwX1_is_0 : List UInt8 := [42, 180, 0, 14, 153, 0, 14, 42, 180, 0, 11, 28, 50, 27, 51, 167, 0, 11, 42, 180, 0, 11, 27, 50]
abbrev dktX1_is_0 : List UInt8 := dkwX1_is_0 ++ dktX1_is_1
theorem dksX1_is_0 : cX1_is.data.toList.drop 0 = dktX1_is_0 := by decide +kernel
theorem dksX1_is_1 : cX1_is.data.toList.drop 24 = dktX1_is_1 := dk_seg dksX1_is_0 24 rfl rfl
theorem dX1_is_0 : decode cX1_is 0 = .ok (.aload_n 0, 1) := dk_42 (dk_at dksX1_is_0 0 rfl rfl)
theorem dX1_is_1 : decode cX1_is 1 = .ok (.getfield 14, 3) := dk_180 0 14 (dk_at dksX1_is_0 1 rfl rfl)
theorem dX1_is_4 : decode cX1_is 4 = .ok (.ifCond .eq 14, 3) := dk_153 0 14 (dk_at dksX1_is_0 4 rfl rfl)
theorem dX1_is_7 : decode cX1_is 7 = .ok (.aload_n 0, 1) := dk_42 (dk_at dksX1_is_0 7 rfl rfl)
theorem dX1_is_8 : decode cX1_is 8 = .ok (.getfield 11, 3) := dk_180 0 11 (dk_at dksX1_is_0 8 rfl rfl)
theorem dX1_is_11 : decode cX1_is 11 = .ok (.iload_n 2, 1) := dk_28 (dk_at dksX1_is_0 11 rfl rfl)
theorem dX1_is_12 : decode cX1_is 12 = .ok (.aaload, 1) := dk_50 (dk_at dksX1_is_0 12 rfl rfl)
theorem dX1_is_13 : decode cX1_is 13 = .ok (.iload_n 1, 1) := dk_27 (dk_at dksX1_is_0 13 rfl rfl)
theorem dX1_is_14 : decode cX1_is 14 = .ok (.baload, 1) := dk_51 (dk_at dksX1_is_0 14 rfl rfl)
theorem dX1_is_15 : decode cX1_is 15 = .ok (.goto 11, 3) := dk_167 0 11 (dk_at dksX1_is_0 15 rfl rfl)
theorem dX1_is_18 : decode cX1_is 18 = .ok (.aload_n 0, 1) := dk_42 (dk_at dksX1_is_0 18 rfl rfl)
theorem dX1_is_19 : decode cX1_is 19 = .ok (.getfield 11, 3) := dk_180 0 11 (dk_at dksX1_is_0 19 rfl rfl)
theorem dX1_is_22 : decode cX1_is 22 = .ok (.iload_n 1, 1) := dk_27 (dk_at dksX1_is_0 22 rfl rfl)
theorem dX1_is_23 : decode cX1_is 23 = .ok (.aaload, 1) := dk_50 (dk_at dksX1_is_0 23 rfl rfl)
theorem dX1_is_24 : decode cX1_is 24 = .ok (.iload_n 2, 1) := dk_28 (dk_at dksX1_is_1 0 rfl rfl)
theorem dX1_is_25 : decode cX1_is 25 = .ok (.baload, 1) := dk_51 (dk_at dksX1_is_1 1 rfl rfl)
theorem dX1_is_26 : decode cX1_is 26 = .ok (.ireturn, 1) := dk_172 (dk_at dksX1_is_1 2 rfl rfl)
abbrev cX1_bit : ByteArray := prog_4_method_9_code
def yX1_bit : MethodName := ⟨RX1, "bit", "(II)Z"⟩
def dkwX1_bit_0 : List UInt8 := [42, 27, 16, 63, 126, 28, 16, 63, 126, 182, 0, 34, 172]
abbrev dktX1_bit_0 : List UInt8 := dkwX1_bit_0 ++ []
theorem dksX1_bit_0 : cX1_bit.data.toList.drop 0 = dktX1_bit_0 := by decide +kernel
theorem dX1_bit_0 : decode cX1_bit 0 = .ok (.aload_n 0, 1) := dk_42 (dk_at dksX1_bit_0 0 rfl rfl)
theorem dX1_bit_1 : decode cX1_bit 1 = .ok (.iload_n 1, 1) := dk_27 (dk_at dksX1_bit_0 1 rfl rfl)
theorem dX1_bit_2 : decode cX1_bit 2 = .ok (.bipush 63, 2) := dk_16 63 (dk_at dksX1_bit_0 2 rfl rfl)
theorem dX1_bit_4 : decode cX1_bit 4 = .ok (.iand, 1) := dk_126 (dk_at dksX1_bit_0 4 rfl rfl)
theorem dX1_bit_5 : decode cX1_bit 5 = .ok (.iload_n 2, 1) := dk_28 (dk_at dksX1_bit_0 5 rfl rfl)
theorem dX1_bit_6 : decode cX1_bit 6 = .ok (.bipush 63, 2) := dk_16 63 (dk_at dksX1_bit_0 6 rfl rfl)
theorem dX1_bit_8 : decode cX1_bit 8 = .ok (.iand, 1) := dk_126 (dk_at dksX1_bit_0 8 rfl rfl)
theorem dX1_bit_9 : decode cX1_bit 9 = .ok (.invokevirtual 34, 3) := dk_182 0 34 (dk_at dksX1_bit_0 9 rfl rfl)
theorem dX1_bit_12 : decode cX1_bit 12 = .ok (.ireturn, 1) := dk_172 (dk_at dksX1_bit_0 12 rfl rfl)
theorem q4 : (Jvm.Cond.initialized "BitSquareDeskModel") ∈ lw_all := lw_g (lw_at lw_m0 2 rfl) rfl
theorem q57 : (Jvm.Cond.instantiable "BitSquareDeskModel" (2 : Nat)) ∈ lw_all := lw_g (lw_at lw_m0 55 rfl) rfl
theorem q59 : (Jvm.Cond.instanceMethod ({ cls := "BitSquareDeskModel", name := "<init>", desc := "()V" } : Jvm.MethodName)) ∈ lw_all := lw_g (lw_at lw_m0 57 rfl) rfl
theorem q60 : (Jvm.Cond.code ({ cls := "BitSquareDeskModel", name := "<init>", desc := "()V" } : Jvm.MethodName) prog_4_method_1_code (1 : Nat) (Option.none : Option Jvm.ClassFile.FieldType)) ∈ lw_all := lw_g (lw_at lw_m0 58 rfl) rfl
theorem q61 : (Jvm.Cond.methodLink "BitSquareDeskModel" (1 : Nat) ({ cls := "java/lang/Object", name := "<init>", desc := "()V" } : Jvm.MethodName)) ∈ lw_all := lw_g (lw_at lw_m0 59 rfl) rfl
theorem q62 : (Jvm.Cond.classLink "BitSquareDeskModel" (9 : Nat) "[[Z") ∈ lw_all := lw_g (lw_at lw_m0 60 rfl) rfl
theorem q64 : (Jvm.Cond.fieldLink "BitSquareDeskModel" (11 : Nat) "BitSquareDeskModel" "bits" "[[Z") ∈ lw_all := lw_g (lw_at lw_m0 62 rfl) rfl
theorem q65 : (Jvm.Cond.fieldLink "BitSquareDeskModel" (14 : Nat) "BitSquareDeskModel" "isTurned" "Z") ∈ lw_all := lw_g (lw_at lw_m0 63 rfl) rfl
theorem q66 : (Jvm.Cond.laysFinal "BitSquareDeskModel" "BitSquareDeskModel" "bits" "[[Z") ∈ lw_all := lw_g (lw_at lw_m0 64 rfl) rfl
theorem q67 : (Jvm.Cond.soleField "BitSquareDeskModel" "bits") ∈ lw_all := lw_g (lw_at lw_m0 65 rfl) rfl
theorem q68 : (Jvm.Cond.lays "BitSquareDeskModel" "BitSquareDeskModel" "isTurned" "Z") ∈ lw_all := lw_g (lw_at lw_m0 66 rfl) rfl
theorem q69 : (Jvm.Cond.soleField "BitSquareDeskModel" "isTurned") ∈ lw_all := lw_g (lw_at lw_m0 67 rfl) rfl
theorem q70 : (Jvm.Cond.superclass "BitSquareDeskModel" "java/lang/Object") ∈ lw_all := lw_g (lw_at lw_m0 68 rfl) rfl
theorem q73 : (Jvm.Cond.instanceMethod ({ cls := "BitSquareDeskModel", name := "set", desc := "(III)V" } : Jvm.MethodName)) ∈ lw_all := lw_g (lw_at lw_m0 71 rfl) rfl
theorem q74 : (Jvm.Cond.selects "BitSquareDeskModel" ({ cls := "BitSquareDeskModel", name := "set", desc := "(III)V" } : Jvm.MethodName) ({ cls := "BitSquareDeskModel", name := "set", desc := "(III)V" } : Jvm.MethodName)) ∈ lw_all := lw_g (lw_at lw_m0 72 rfl) rfl
theorem q75 : (Jvm.Cond.code ({ cls := "BitSquareDeskModel", name := "set", desc := "(III)V" } : Jvm.MethodName) prog_4_method_5_code (4 : Nat) (Option.none : Option Jvm.ClassFile.FieldType)) ∈ lw_all := lw_g (lw_at lw_m0 73 rfl) rfl
theorem q76 : (Jvm.Cond.methodLink "BitSquareDeskModel" (22 : Nat) ({ cls := "BitSquareDeskModel", name := "whole", desc := "(II)J" } : Jvm.MethodName)) ∈ lw_all := lw_g (lw_at lw_m0 74 rfl) rfl
theorem q77 : (Jvm.Cond.static ({ cls := "BitSquareDeskModel", name := "whole", desc := "(II)J" } : Jvm.MethodName)) ∈ lw_all := lw_g (lw_at lw_m0 75 rfl) rfl
theorem q78 : (Jvm.Cond.code ({ cls := "BitSquareDeskModel", name := "whole", desc := "(II)J" } : Jvm.MethodName) prog_4_method_4_code (2 : Nat) (Option.some Jvm.ClassFile.FieldType.long)) ∈ lw_all := lw_g (lw_at lw_m0 76 rfl) rfl
theorem q79 : (Jvm.Cond.constantLong "BitSquareDeskModel" (18 : Nat) (4294967296 : Int64)) ∈ lw_all := lw_g (lw_at lw_m0 77 rfl) rfl
theorem q80 : (Jvm.Cond.constantLong "BitSquareDeskModel" (20 : Nat) (4294967295 : Int64)) ∈ lw_all := lw_g (lw_at lw_m0 78 rfl) rfl
theorem q81 : (Jvm.Cond.methodLink "BitSquareDeskModel" (26 : Nat) ({ cls := "BitSquareDeskModel", name := "lay", desc := "(IJ)V" } : Jvm.MethodName)) ∈ lw_all := lw_g (lw_at lw_m0 79 rfl) rfl
theorem q82 : (Jvm.Cond.privateMethod ({ cls := "BitSquareDeskModel", name := "lay", desc := "(IJ)V" } : Jvm.MethodName)) ∈ lw_tbl := lw_at lw_m0 80 rfl
theorem q83 : (Jvm.Cond.instanceMethod ({ cls := "BitSquareDeskModel", name := "lay", desc := "(IJ)V" } : Jvm.MethodName)) ∈ lw_all := lw_g (lw_at lw_m0 81 rfl) rfl
theorem q84 : (Jvm.Cond.code ({ cls := "BitSquareDeskModel", name := "lay", desc := "(IJ)V" } : Jvm.MethodName) prog_4_method_2_code (6 : Nat) (Option.none : Option Jvm.ClassFile.FieldType)) ∈ lw_all := lw_g (lw_at lw_m0 82 rfl) rfl
theorem q86 : (Jvm.Cond.instanceMethod ({ cls := "BitSquareDeskModel", name := "spread", desc := "(III)V" } : Jvm.MethodName)) ∈ lw_all := lw_g (lw_at lw_m0 84 rfl) rfl
theorem q87 : (Jvm.Cond.selects "BitSquareDeskModel" ({ cls := "BitSquareDeskModel", name := "spread", desc := "(III)V" } : Jvm.MethodName) ({ cls := "BitSquareDeskModel", name := "spread", desc := "(III)V" } : Jvm.MethodName)) ∈ lw_all := lw_g (lw_at lw_m0 85 rfl) rfl
theorem q88 : (Jvm.Cond.code ({ cls := "BitSquareDeskModel", name := "spread", desc := "(III)V" } : Jvm.MethodName) prog_4_method_6_code (7 : Nat) (Option.none : Option Jvm.ClassFile.FieldType)) ∈ lw_all := lw_g (lw_at lw_m0 86 rfl) rfl
theorem q89 : (Jvm.Cond.constantLong "BitSquareDeskModel" (30 : Nat) (6364136223846793005 : Int64)) ∈ lw_all := lw_g (lw_at lw_m0 87 rfl) rfl
theorem q91 : (Jvm.Cond.instanceMethod ({ cls := "BitSquareDeskModel", name := "turn", desc := "()V" } : Jvm.MethodName)) ∈ lw_all := lw_g (lw_at lw_m0 89 rfl) rfl
theorem q92 : (Jvm.Cond.selects "BitSquareDeskModel" ({ cls := "BitSquareDeskModel", name := "turn", desc := "()V" } : Jvm.MethodName) ({ cls := "BitSquareDeskModel", name := "turn", desc := "()V" } : Jvm.MethodName)) ∈ lw_all := lw_g (lw_at lw_m0 90 rfl) rfl
theorem q93 : (Jvm.Cond.code ({ cls := "BitSquareDeskModel", name := "turn", desc := "()V" } : Jvm.MethodName) prog_4_method_7_code (1 : Nat) (Option.none : Option Jvm.ClassFile.FieldType)) ∈ lw_all := lw_g (lw_at lw_m0 91 rfl) rfl
theorem q95 : (Jvm.Cond.instanceMethod ({ cls := "BitSquareDeskModel", name := "get", desc := "(I)J" } : Jvm.MethodName)) ∈ lw_all := lw_g (lw_at lw_m0 93 rfl) rfl
theorem q96 : (Jvm.Cond.selects "BitSquareDeskModel" ({ cls := "BitSquareDeskModel", name := "get", desc := "(I)J" } : Jvm.MethodName) ({ cls := "BitSquareDeskModel", name := "get", desc := "(I)J" } : Jvm.MethodName)) ∈ lw_all := lw_g (lw_at lw_m0 94 rfl) rfl
theorem q97 : (Jvm.Cond.code ({ cls := "BitSquareDeskModel", name := "get", desc := "(I)J" } : Jvm.MethodName) prog_4_method_8_code (5 : Nat) (Option.some Jvm.ClassFile.FieldType.long)) ∈ lw_all := lw_g (lw_at lw_m0 95 rfl) rfl
theorem q98 : (Jvm.Cond.constantLong "BitSquareDeskModel" (32 : Nat) (2 : Int64)) ∈ lw_all := lw_g (lw_at lw_m0 96 rfl) rfl
theorem q99 : (Jvm.Cond.methodLink "BitSquareDeskModel" (34 : Nat) ({ cls := "BitSquareDeskModel", name := "is", desc := "(II)Z" } : Jvm.MethodName)) ∈ lw_all := lw_g (lw_at lw_m0 97 rfl) rfl
theorem q100 : (Jvm.Cond.privateMethod ({ cls := "BitSquareDeskModel", name := "is", desc := "(II)Z" } : Jvm.MethodName)) ∈ lw_tbl := lw_at lw_m0 98 rfl
theorem q101 : (Jvm.Cond.instanceMethod ({ cls := "BitSquareDeskModel", name := "is", desc := "(II)Z" } : Jvm.MethodName)) ∈ lw_all := lw_g (lw_at lw_m0 99 rfl) rfl
theorem q102 : (Jvm.Cond.code ({ cls := "BitSquareDeskModel", name := "is", desc := "(II)Z" } : Jvm.MethodName) prog_4_method_3_code (3 : Nat) (Option.some Jvm.ClassFile.FieldType.boolean)) ∈ lw_all := lw_g (lw_at lw_m0 100 rfl) rfl
theorem q104 : (Jvm.Cond.instanceMethod ({ cls := "BitSquareDeskModel", name := "bit", desc := "(II)Z" } : Jvm.MethodName)) ∈ lw_all := lw_g (lw_at lw_m0 102 rfl) rfl
theorem q105 : (Jvm.Cond.selects "BitSquareDeskModel" ({ cls := "BitSquareDeskModel", name := "bit", desc := "(II)Z" } : Jvm.MethodName) ({ cls := "BitSquareDeskModel", name := "bit", desc := "(II)Z" } : Jvm.MethodName)) ∈ lw_all := lw_g (lw_at lw_m0 103 rfl) rfl
theorem q106 : (Jvm.Cond.code ({ cls := "BitSquareDeskModel", name := "bit", desc := "(II)Z" } : Jvm.MethodName) prog_4_method_9_code (3 : Nat) (Option.some Jvm.ClassFile.FieldType.boolean)) ∈ lw_all := lw_g (lw_at lw_m0 104 rfl) rfl
theorem in_X1 : ∀ w ∈ wsX10, w ∈ lw_all := lw_in wsX10 [66, 68] (by decide +kernel) (by decide +kernel)
/-! BENES -/
set_option maxRecDepth 100000
def RX2 : String := "BENES"
abbrev cX2_transpose_64x64 : ByteArray := prog_1_method_2_code
def yX2_transpose_64x64 : MethodName := ⟨RX2, "transpose_64x64", "([J[J)V"⟩
def dkwX2_transpose_64x64_0 : List UInt8 := [42, 43, 3, 184, 0, 7, 177]
abbrev dktX2_transpose_64x64_0 : List UInt8 := dkwX2_transpose_64x64_0 ++ []
theorem dksX2_transpose_64x64_0 : cX2_transpose_64x64.data.toList.drop 0 = dktX2_transpose_64x64_0 := by decide +kernel
theorem dX2_transpose_64x64_0 : decode cX2_transpose_64x64 0 = .ok (.aload_n 0, 1) := dk_42 (dk_at dksX2_transpose_64x64_0 0 rfl rfl)
theorem dX2_transpose_64x64_1 : decode cX2_transpose_64x64 1 = .ok (.aload_n 1, 1) := dk_43 (dk_at dksX2_transpose_64x64_0 1 rfl rfl)
theorem dX2_transpose_64x64_2 : decode cX2_transpose_64x64 2 = .ok (.iconst 0, 1) := dk_3 (dk_at dksX2_transpose_64x64_0 2 rfl rfl)
theorem dX2_transpose_64x64_3 : decode cX2_transpose_64x64 3 = .ok (.invokestatic 7, 3) := dk_184 0 7 (dk_at dksX2_transpose_64x64_0 3 rfl rfl)
theorem dX2_transpose_64x64_6 : decode cX2_transpose_64x64 6 = .ok (.return_, 1) := dk_177 (dk_at dksX2_transpose_64x64_0 6 rfl rfl)
abbrev cX2_transpose_64x64_2 : ByteArray := prog_1_method_3_code
def yX2_transpose_64x64_2 : MethodName := ⟨RX2, "transpose_64x64", "([J[JI)V"⟩
def dkwX2_transpose_64x64_2_18 : List UInt8 := [167, 255, 162, 132, 3, 255, 29, 156, 255, 140, 177]
abbrev dktX2_transpose_64x64_2_18 : List UInt8 := dkwX2_transpose_64x64_2_18 ++ []
def dkwX2_transpose_64x64_2_17 : List UInt8 := [96, 22, 11, 22, 13, 131, 80, 132, 8, 1, 167, 255, 187, 21, 7, 21, 6, 5, 104, 96, 54, 7]
abbrev dktX2_transpose_64x64_2_17 : List UInt8 := dkwX2_transpose_64x64_2_17 ++ dktX2_transpose_64x64_2_18
def dkwX2_transpose_64x64_2_16 : List UInt8 := [22, 4, 127, 55, 13, 42, 21, 8, 3, 96, 22, 9, 22, 13, 21, 6, 121, 131, 80, 42, 21, 8, 21, 6]
abbrev dktX2_transpose_64x64_2_16 : List UInt8 := dkwX2_transpose_64x64_2_16 ++ dktX2_transpose_64x64_2_17
def dkwX2_transpose_64x64_2_15 : List UInt8 := [21, 8, 3, 96, 47, 55, 9, 42, 21, 8, 21, 6, 96, 47, 55, 11, 22, 9, 21, 6, 125, 22, 11, 131]
abbrev dktX2_transpose_64x64_2_15 : List UInt8 := dkwX2_transpose_64x64_2_15 ++ dktX2_transpose_64x64_2_16
def dkwX2_transpose_64x64_2_14 : List UInt8 := [21, 7, 28, 16, 64, 96, 162, 0, 91, 21, 7, 54, 8, 21, 8, 21, 7, 21, 6, 96, 162, 0, 65, 42]
abbrev dktX2_transpose_64x64_2_14 : List UInt8 := dkwX2_transpose_64x64_2_14 ++ dktX2_transpose_64x64_2_15
def dkwX2_transpose_64x64_2_13 : List UInt8 := [132, 3, 255, 29, 5, 162, 254, 211, 178, 0, 19, 29, 47, 55, 4, 4, 29, 120, 54, 6, 28, 54, 7]
abbrev dktX2_transpose_64x64_2_13 : List UInt8 := dkwX2_transpose_64x64_2_13 ++ dktX2_transpose_64x64_2_14
def dkwX2_transpose_64x64_2_12 : List UInt8 := [22, 23, 22, 31, 131, 80, 132, 8, 4, 167, 255, 3, 21, 7, 21, 6, 5, 104, 96, 54, 7, 167, 254, 234]
abbrev dktX2_transpose_64x64_2_12 : List UInt8 := dkwX2_transpose_64x64_2_12 ++ dktX2_transpose_64x64_2_13
def dkwX2_transpose_64x64_2_11 : List UInt8 := [80, 42, 21, 8, 21, 6, 96, 5, 96, 22, 21, 22, 29, 131, 80, 42, 21, 8, 21, 6, 96, 6, 96]
abbrev dktX2_transpose_64x64_2_11 : List UInt8 := dkwX2_transpose_64x64_2_11 ++ dktX2_transpose_64x64_2_12
def dkwX2_transpose_64x64_2_10 : List UInt8 := [21, 6, 96, 3, 96, 22, 17, 22, 25, 131, 80, 42, 21, 8, 21, 6, 96, 4, 96, 22, 19, 22, 27, 131]
abbrev dktX2_transpose_64x64_2_10 : List UInt8 := dkwX2_transpose_64x64_2_10 ++ dktX2_transpose_64x64_2_11
def dkwX2_transpose_64x64_2_9 : List UInt8 := [22, 29, 21, 6, 121, 131, 80, 42, 21, 8, 6, 96, 22, 15, 22, 31, 21, 6, 121, 131, 80, 42, 21, 8]
abbrev dktX2_transpose_64x64_2_9 : List UInt8 := dkwX2_transpose_64x64_2_9 ++ dktX2_transpose_64x64_2_10
def dkwX2_transpose_64x64_2_8 : List UInt8 := [121, 131, 80, 42, 21, 8, 4, 96, 22, 11, 22, 27, 21, 6, 121, 131, 80, 42, 21, 8, 5, 96, 22, 13]
abbrev dktX2_transpose_64x64_2_8 : List UInt8 := dkwX2_transpose_64x64_2_8 ++ dktX2_transpose_64x64_2_9
def dkwX2_transpose_64x64_2_7 : List UInt8 := [22, 15, 21, 6, 125, 22, 23, 131, 22, 4, 127, 55, 31, 42, 21, 8, 3, 96, 22, 9, 22, 25, 21, 6]
abbrev dktX2_transpose_64x64_2_7 : List UInt8 := dkwX2_transpose_64x64_2_7 ++ dktX2_transpose_64x64_2_8
def dkwX2_transpose_64x64_2_6 : List UInt8 := [21, 6, 125, 22, 19, 131, 22, 4, 127, 55, 27, 22, 13, 21, 6, 125, 22, 21, 131, 22, 4, 127, 55, 29]
abbrev dktX2_transpose_64x64_2_6 : List UInt8 := dkwX2_transpose_64x64_2_6 ++ dktX2_transpose_64x64_2_7
def dkwX2_transpose_64x64_2_5 : List UInt8 := [21, 6, 96, 6, 96, 47, 55, 23, 22, 9, 21, 6, 125, 22, 17, 131, 22, 4, 127, 55, 25, 22, 11]
abbrev dktX2_transpose_64x64_2_5 : List UInt8 := dkwX2_transpose_64x64_2_5 ++ dktX2_transpose_64x64_2_6
def dkwX2_transpose_64x64_2_4 : List UInt8 := [21, 8, 21, 6, 96, 4, 96, 47, 55, 19, 42, 21, 8, 21, 6, 96, 5, 96, 47, 55, 21, 42, 21, 8]
abbrev dktX2_transpose_64x64_2_4 : List UInt8 := dkwX2_transpose_64x64_2_4 ++ dktX2_transpose_64x64_2_5
def dkwX2_transpose_64x64_2_3 : List UInt8 := [47, 55, 13, 42, 21, 8, 6, 96, 47, 55, 15, 42, 21, 8, 21, 6, 96, 3, 96, 47, 55, 17, 42]
abbrev dktX2_transpose_64x64_2_3 : List UInt8 := dkwX2_transpose_64x64_2_3 ++ dktX2_transpose_64x64_2_4
def dkwX2_transpose_64x64_2_2 : List UInt8 := [162, 0, 249, 42, 21, 8, 3, 96, 47, 55, 9, 42, 21, 8, 4, 96, 47, 55, 11, 42, 21, 8, 5, 96]
abbrev dktX2_transpose_64x64_2_2 : List UInt8 := dkwX2_transpose_64x64_2_2 ++ dktX2_transpose_64x64_2_3
def dkwX2_transpose_64x64_2_1 : List UInt8 := [54, 7, 21, 7, 28, 16, 64, 96, 162, 1, 19, 21, 7, 54, 8, 21, 8, 21, 7, 21, 6, 96]
abbrev dktX2_transpose_64x64_2_1 : List UInt8 := dkwX2_transpose_64x64_2_1 ++ dktX2_transpose_64x64_2_2
def dkwX2_transpose_64x64_2_0 : List UInt8 := [43, 28, 42, 28, 16, 64, 184, 0, 13, 8, 62, 178, 0, 19, 29, 47, 55, 4, 4, 29, 120, 54, 6, 28]
abbrev dktX2_transpose_64x64_2_0 : List UInt8 := dkwX2_transpose_64x64_2_0 ++ dktX2_transpose_64x64_2_1
theorem dksX2_transpose_64x64_2_0 : cX2_transpose_64x64_2.data.toList.drop 0 = dktX2_transpose_64x64_2_0 := by decide +kernel
theorem dksX2_transpose_64x64_2_1 : cX2_transpose_64x64_2.data.toList.drop 24 = dktX2_transpose_64x64_2_1 := dk_seg dksX2_transpose_64x64_2_0 24 rfl rfl
theorem dksX2_transpose_64x64_2_2 : cX2_transpose_64x64_2.data.toList.drop 46 = dktX2_transpose_64x64_2_2 := dk_seg dksX2_transpose_64x64_2_1 22 rfl rfl
theorem dksX2_transpose_64x64_2_3 : cX2_transpose_64x64_2.data.toList.drop 70 = dktX2_transpose_64x64_2_3 := dk_seg dksX2_transpose_64x64_2_2 24 rfl rfl
theorem dksX2_transpose_64x64_2_4 : cX2_transpose_64x64_2.data.toList.drop 93 = dktX2_transpose_64x64_2_4 := dk_seg dksX2_transpose_64x64_2_3 23 rfl rfl
theorem dksX2_transpose_64x64_2_5 : cX2_transpose_64x64_2.data.toList.drop 117 = dktX2_transpose_64x64_2_5 := dk_seg dksX2_transpose_64x64_2_4 24 rfl rfl
theorem dksX2_transpose_64x64_2_6 : cX2_transpose_64x64_2.data.toList.drop 140 = dktX2_transpose_64x64_2_6 := dk_seg dksX2_transpose_64x64_2_5 23 rfl rfl
theorem dksX2_transpose_64x64_2_7 : cX2_transpose_64x64_2.data.toList.drop 164 = dktX2_transpose_64x64_2_7 := dk_seg dksX2_transpose_64x64_2_6 24 rfl rfl
theorem dksX2_transpose_64x64_2_8 : cX2_transpose_64x64_2.data.toList.drop 188 = dktX2_transpose_64x64_2_8 := dk_seg dksX2_transpose_64x64_2_7 24 rfl rfl
theorem dksX2_transpose_64x64_2_9 : cX2_transpose_64x64_2.data.toList.drop 212 = dktX2_transpose_64x64_2_9 := dk_seg dksX2_transpose_64x64_2_8 24 rfl rfl
theorem dksX2_transpose_64x64_2_10 : cX2_transpose_64x64_2.data.toList.drop 236 = dktX2_transpose_64x64_2_10 := dk_seg dksX2_transpose_64x64_2_9 24 rfl rfl
theorem dksX2_transpose_64x64_2_11 : cX2_transpose_64x64_2.data.toList.drop 260 = dktX2_transpose_64x64_2_11 := dk_seg dksX2_transpose_64x64_2_10 24 rfl rfl
theorem dksX2_transpose_64x64_2_12 : cX2_transpose_64x64_2.data.toList.drop 283 = dktX2_transpose_64x64_2_12 := dk_seg dksX2_transpose_64x64_2_11 23 rfl rfl
theorem dksX2_transpose_64x64_2_13 : cX2_transpose_64x64_2.data.toList.drop 307 = dktX2_transpose_64x64_2_13 := dk_seg dksX2_transpose_64x64_2_12 24 rfl rfl
theorem dksX2_transpose_64x64_2_14 : cX2_transpose_64x64_2.data.toList.drop 330 = dktX2_transpose_64x64_2_14 := dk_seg dksX2_transpose_64x64_2_13 23 rfl rfl
theorem dksX2_transpose_64x64_2_15 : cX2_transpose_64x64_2.data.toList.drop 354 = dktX2_transpose_64x64_2_15 := dk_seg dksX2_transpose_64x64_2_14 24 rfl rfl
theorem dksX2_transpose_64x64_2_16 : cX2_transpose_64x64_2.data.toList.drop 378 = dktX2_transpose_64x64_2_16 := dk_seg dksX2_transpose_64x64_2_15 24 rfl rfl
theorem dksX2_transpose_64x64_2_17 : cX2_transpose_64x64_2.data.toList.drop 402 = dktX2_transpose_64x64_2_17 := dk_seg dksX2_transpose_64x64_2_16 24 rfl rfl
theorem dksX2_transpose_64x64_2_18 : cX2_transpose_64x64_2.data.toList.drop 424 = dktX2_transpose_64x64_2_18 := dk_seg dksX2_transpose_64x64_2_17 22 rfl rfl
theorem dX2_transpose_64x64_2_0 : decode cX2_transpose_64x64_2 0 = .ok (.aload_n 1, 1) := dk_43 (dk_at dksX2_transpose_64x64_2_0 0 rfl rfl)
theorem dX2_transpose_64x64_2_1 : decode cX2_transpose_64x64_2 1 = .ok (.iload_n 2, 1) := dk_28 (dk_at dksX2_transpose_64x64_2_0 1 rfl rfl)
theorem dX2_transpose_64x64_2_2 : decode cX2_transpose_64x64_2 2 = .ok (.aload_n 0, 1) := dk_42 (dk_at dksX2_transpose_64x64_2_0 2 rfl rfl)
theorem dX2_transpose_64x64_2_3 : decode cX2_transpose_64x64_2 3 = .ok (.iload_n 2, 1) := dk_28 (dk_at dksX2_transpose_64x64_2_0 3 rfl rfl)
theorem dX2_transpose_64x64_2_4 : decode cX2_transpose_64x64_2 4 = .ok (.bipush 64, 2) := dk_16 64 (dk_at dksX2_transpose_64x64_2_0 4 rfl rfl)
theorem dX2_transpose_64x64_2_6 : decode cX2_transpose_64x64_2 6 = .ok (.invokestatic 13, 3) := dk_184 0 13 (dk_at dksX2_transpose_64x64_2_0 6 rfl rfl)
theorem dX2_transpose_64x64_2_9 : decode cX2_transpose_64x64_2 9 = .ok (.iconst 5, 1) := dk_8 (dk_at dksX2_transpose_64x64_2_0 9 rfl rfl)
theorem dX2_transpose_64x64_2_10 : decode cX2_transpose_64x64_2 10 = .ok (.istore_n 3, 1) := dk_62 (dk_at dksX2_transpose_64x64_2_0 10 rfl rfl)
theorem dX2_transpose_64x64_2_11 : decode cX2_transpose_64x64_2 11 = .ok (.getstatic 19, 3) := dk_178 0 19 (dk_at dksX2_transpose_64x64_2_0 11 rfl rfl)
theorem dX2_transpose_64x64_2_14 : decode cX2_transpose_64x64_2 14 = .ok (.iload_n 3, 1) := dk_29 (dk_at dksX2_transpose_64x64_2_0 14 rfl rfl)
theorem dX2_transpose_64x64_2_15 : decode cX2_transpose_64x64_2 15 = .ok (.laload, 1) := dk_47 (dk_at dksX2_transpose_64x64_2_0 15 rfl rfl)
theorem dX2_transpose_64x64_2_16 : decode cX2_transpose_64x64_2 16 = .ok (.lstore 4, 2) := dk_55 4 (dk_at dksX2_transpose_64x64_2_0 16 rfl rfl)
theorem dX2_transpose_64x64_2_18 : decode cX2_transpose_64x64_2 18 = .ok (.iconst 1, 1) := dk_4 (dk_at dksX2_transpose_64x64_2_0 18 rfl rfl)
theorem dX2_transpose_64x64_2_19 : decode cX2_transpose_64x64_2 19 = .ok (.iload_n 3, 1) := dk_29 (dk_at dksX2_transpose_64x64_2_0 19 rfl rfl)
theorem dX2_transpose_64x64_2_20 : decode cX2_transpose_64x64_2 20 = .ok (.ishl, 1) := dk_120 (dk_at dksX2_transpose_64x64_2_0 20 rfl rfl)
theorem dX2_transpose_64x64_2_21 : decode cX2_transpose_64x64_2 21 = .ok (.istore 6, 2) := dk_54 6 (dk_at dksX2_transpose_64x64_2_0 21 rfl rfl)
theorem dX2_transpose_64x64_2_23 : decode cX2_transpose_64x64_2 23 = .ok (.iload_n 2, 1) := dk_28 (dk_at dksX2_transpose_64x64_2_0 23 rfl rfl)
theorem dX2_transpose_64x64_2_24 : decode cX2_transpose_64x64_2 24 = .ok (.istore 7, 2) := dk_54 7 (dk_at dksX2_transpose_64x64_2_1 0 rfl rfl)
theorem dX2_transpose_64x64_2_26 : decode cX2_transpose_64x64_2 26 = .ok (.iload 7, 2) := dk_21 7 (dk_at dksX2_transpose_64x64_2_1 2 rfl rfl)
theorem dX2_transpose_64x64_2_28 : decode cX2_transpose_64x64_2 28 = .ok (.iload_n 2, 1) := dk_28 (dk_at dksX2_transpose_64x64_2_1 4 rfl rfl)
theorem dX2_transpose_64x64_2_29 : decode cX2_transpose_64x64_2 29 = .ok (.bipush 64, 2) := dk_16 64 (dk_at dksX2_transpose_64x64_2_1 5 rfl rfl)
theorem dX2_transpose_64x64_2_31 : decode cX2_transpose_64x64_2 31 = .ok (.iadd, 1) := dk_96 (dk_at dksX2_transpose_64x64_2_1 7 rfl rfl)
theorem dX2_transpose_64x64_2_32 : decode cX2_transpose_64x64_2 32 = .ok (.if_icmp .ge 275, 3) := dk_162 1 19 (dk_at dksX2_transpose_64x64_2_1 8 rfl rfl)
theorem dX2_transpose_64x64_2_35 : decode cX2_transpose_64x64_2 35 = .ok (.iload 7, 2) := dk_21 7 (dk_at dksX2_transpose_64x64_2_1 11 rfl rfl)
theorem dX2_transpose_64x64_2_37 : decode cX2_transpose_64x64_2 37 = .ok (.istore 8, 2) := dk_54 8 (dk_at dksX2_transpose_64x64_2_1 13 rfl rfl)
theorem dX2_transpose_64x64_2_39 : decode cX2_transpose_64x64_2 39 = .ok (.iload 8, 2) := dk_21 8 (dk_at dksX2_transpose_64x64_2_1 15 rfl rfl)
theorem dX2_transpose_64x64_2_41 : decode cX2_transpose_64x64_2 41 = .ok (.iload 7, 2) := dk_21 7 (dk_at dksX2_transpose_64x64_2_1 17 rfl rfl)
theorem dX2_transpose_64x64_2_43 : decode cX2_transpose_64x64_2 43 = .ok (.iload 6, 2) := dk_21 6 (dk_at dksX2_transpose_64x64_2_1 19 rfl rfl)
theorem dX2_transpose_64x64_2_45 : decode cX2_transpose_64x64_2 45 = .ok (.iadd, 1) := dk_96 (dk_at dksX2_transpose_64x64_2_1 21 rfl rfl)
theorem dX2_transpose_64x64_2_46 : decode cX2_transpose_64x64_2 46 = .ok (.if_icmp .ge 249, 3) := dk_162 0 249 (dk_at dksX2_transpose_64x64_2_2 0 rfl rfl)
theorem dX2_transpose_64x64_2_49 : decode cX2_transpose_64x64_2 49 = .ok (.aload_n 0, 1) := dk_42 (dk_at dksX2_transpose_64x64_2_2 3 rfl rfl)
theorem dX2_transpose_64x64_2_50 : decode cX2_transpose_64x64_2 50 = .ok (.iload 8, 2) := dk_21 8 (dk_at dksX2_transpose_64x64_2_2 4 rfl rfl)
theorem dX2_transpose_64x64_2_52 : decode cX2_transpose_64x64_2 52 = .ok (.iconst 0, 1) := dk_3 (dk_at dksX2_transpose_64x64_2_2 6 rfl rfl)
theorem dX2_transpose_64x64_2_53 : decode cX2_transpose_64x64_2 53 = .ok (.iadd, 1) := dk_96 (dk_at dksX2_transpose_64x64_2_2 7 rfl rfl)
theorem dX2_transpose_64x64_2_54 : decode cX2_transpose_64x64_2 54 = .ok (.laload, 1) := dk_47 (dk_at dksX2_transpose_64x64_2_2 8 rfl rfl)
theorem dX2_transpose_64x64_2_55 : decode cX2_transpose_64x64_2 55 = .ok (.lstore 9, 2) := dk_55 9 (dk_at dksX2_transpose_64x64_2_2 9 rfl rfl)
theorem dX2_transpose_64x64_2_57 : decode cX2_transpose_64x64_2 57 = .ok (.aload_n 0, 1) := dk_42 (dk_at dksX2_transpose_64x64_2_2 11 rfl rfl)
theorem dX2_transpose_64x64_2_58 : decode cX2_transpose_64x64_2 58 = .ok (.iload 8, 2) := dk_21 8 (dk_at dksX2_transpose_64x64_2_2 12 rfl rfl)
theorem dX2_transpose_64x64_2_60 : decode cX2_transpose_64x64_2 60 = .ok (.iconst 1, 1) := dk_4 (dk_at dksX2_transpose_64x64_2_2 14 rfl rfl)
theorem dX2_transpose_64x64_2_61 : decode cX2_transpose_64x64_2 61 = .ok (.iadd, 1) := dk_96 (dk_at dksX2_transpose_64x64_2_2 15 rfl rfl)
theorem dX2_transpose_64x64_2_62 : decode cX2_transpose_64x64_2 62 = .ok (.laload, 1) := dk_47 (dk_at dksX2_transpose_64x64_2_2 16 rfl rfl)
theorem dX2_transpose_64x64_2_63 : decode cX2_transpose_64x64_2 63 = .ok (.lstore 11, 2) := dk_55 11 (dk_at dksX2_transpose_64x64_2_2 17 rfl rfl)
theorem dX2_transpose_64x64_2_65 : decode cX2_transpose_64x64_2 65 = .ok (.aload_n 0, 1) := dk_42 (dk_at dksX2_transpose_64x64_2_2 19 rfl rfl)
theorem dX2_transpose_64x64_2_66 : decode cX2_transpose_64x64_2 66 = .ok (.iload 8, 2) := dk_21 8 (dk_at dksX2_transpose_64x64_2_2 20 rfl rfl)
theorem dX2_transpose_64x64_2_68 : decode cX2_transpose_64x64_2 68 = .ok (.iconst 2, 1) := dk_5 (dk_at dksX2_transpose_64x64_2_2 22 rfl rfl)
theorem dX2_transpose_64x64_2_69 : decode cX2_transpose_64x64_2 69 = .ok (.iadd, 1) := dk_96 (dk_at dksX2_transpose_64x64_2_2 23 rfl rfl)
theorem dX2_transpose_64x64_2_70 : decode cX2_transpose_64x64_2 70 = .ok (.laload, 1) := dk_47 (dk_at dksX2_transpose_64x64_2_3 0 rfl rfl)
theorem dX2_transpose_64x64_2_71 : decode cX2_transpose_64x64_2 71 = .ok (.lstore 13, 2) := dk_55 13 (dk_at dksX2_transpose_64x64_2_3 1 rfl rfl)
theorem dX2_transpose_64x64_2_73 : decode cX2_transpose_64x64_2 73 = .ok (.aload_n 0, 1) := dk_42 (dk_at dksX2_transpose_64x64_2_3 3 rfl rfl)
theorem dX2_transpose_64x64_2_74 : decode cX2_transpose_64x64_2 74 = .ok (.iload 8, 2) := dk_21 8 (dk_at dksX2_transpose_64x64_2_3 4 rfl rfl)
theorem dX2_transpose_64x64_2_76 : decode cX2_transpose_64x64_2 76 = .ok (.iconst 3, 1) := dk_6 (dk_at dksX2_transpose_64x64_2_3 6 rfl rfl)
theorem dX2_transpose_64x64_2_77 : decode cX2_transpose_64x64_2 77 = .ok (.iadd, 1) := dk_96 (dk_at dksX2_transpose_64x64_2_3 7 rfl rfl)
theorem dX2_transpose_64x64_2_78 : decode cX2_transpose_64x64_2 78 = .ok (.laload, 1) := dk_47 (dk_at dksX2_transpose_64x64_2_3 8 rfl rfl)
theorem dX2_transpose_64x64_2_79 : decode cX2_transpose_64x64_2 79 = .ok (.lstore 15, 2) := dk_55 15 (dk_at dksX2_transpose_64x64_2_3 9 rfl rfl)
theorem dX2_transpose_64x64_2_81 : decode cX2_transpose_64x64_2 81 = .ok (.aload_n 0, 1) := dk_42 (dk_at dksX2_transpose_64x64_2_3 11 rfl rfl)
theorem dX2_transpose_64x64_2_82 : decode cX2_transpose_64x64_2 82 = .ok (.iload 8, 2) := dk_21 8 (dk_at dksX2_transpose_64x64_2_3 12 rfl rfl)
theorem dX2_transpose_64x64_2_84 : decode cX2_transpose_64x64_2 84 = .ok (.iload 6, 2) := dk_21 6 (dk_at dksX2_transpose_64x64_2_3 14 rfl rfl)
theorem dX2_transpose_64x64_2_86 : decode cX2_transpose_64x64_2 86 = .ok (.iadd, 1) := dk_96 (dk_at dksX2_transpose_64x64_2_3 16 rfl rfl)
theorem dX2_transpose_64x64_2_87 : decode cX2_transpose_64x64_2 87 = .ok (.iconst 0, 1) := dk_3 (dk_at dksX2_transpose_64x64_2_3 17 rfl rfl)
theorem dX2_transpose_64x64_2_88 : decode cX2_transpose_64x64_2 88 = .ok (.iadd, 1) := dk_96 (dk_at dksX2_transpose_64x64_2_3 18 rfl rfl)
theorem dX2_transpose_64x64_2_89 : decode cX2_transpose_64x64_2 89 = .ok (.laload, 1) := dk_47 (dk_at dksX2_transpose_64x64_2_3 19 rfl rfl)
theorem dX2_transpose_64x64_2_90 : decode cX2_transpose_64x64_2 90 = .ok (.lstore 17, 2) := dk_55 17 (dk_at dksX2_transpose_64x64_2_3 20 rfl rfl)
theorem dX2_transpose_64x64_2_92 : decode cX2_transpose_64x64_2 92 = .ok (.aload_n 0, 1) := dk_42 (dk_at dksX2_transpose_64x64_2_3 22 rfl rfl)
theorem dX2_transpose_64x64_2_93 : decode cX2_transpose_64x64_2 93 = .ok (.iload 8, 2) := dk_21 8 (dk_at dksX2_transpose_64x64_2_4 0 rfl rfl)
theorem dX2_transpose_64x64_2_95 : decode cX2_transpose_64x64_2 95 = .ok (.iload 6, 2) := dk_21 6 (dk_at dksX2_transpose_64x64_2_4 2 rfl rfl)
theorem dX2_transpose_64x64_2_97 : decode cX2_transpose_64x64_2 97 = .ok (.iadd, 1) := dk_96 (dk_at dksX2_transpose_64x64_2_4 4 rfl rfl)
theorem dX2_transpose_64x64_2_98 : decode cX2_transpose_64x64_2 98 = .ok (.iconst 1, 1) := dk_4 (dk_at dksX2_transpose_64x64_2_4 5 rfl rfl)
theorem dX2_transpose_64x64_2_99 : decode cX2_transpose_64x64_2 99 = .ok (.iadd, 1) := dk_96 (dk_at dksX2_transpose_64x64_2_4 6 rfl rfl)
theorem dX2_transpose_64x64_2_100 : decode cX2_transpose_64x64_2 100 = .ok (.laload, 1) := dk_47 (dk_at dksX2_transpose_64x64_2_4 7 rfl rfl)
theorem dX2_transpose_64x64_2_101 : decode cX2_transpose_64x64_2 101 = .ok (.lstore 19, 2) := dk_55 19 (dk_at dksX2_transpose_64x64_2_4 8 rfl rfl)
theorem dX2_transpose_64x64_2_103 : decode cX2_transpose_64x64_2 103 = .ok (.aload_n 0, 1) := dk_42 (dk_at dksX2_transpose_64x64_2_4 10 rfl rfl)
theorem dX2_transpose_64x64_2_104 : decode cX2_transpose_64x64_2 104 = .ok (.iload 8, 2) := dk_21 8 (dk_at dksX2_transpose_64x64_2_4 11 rfl rfl)
theorem dX2_transpose_64x64_2_106 : decode cX2_transpose_64x64_2 106 = .ok (.iload 6, 2) := dk_21 6 (dk_at dksX2_transpose_64x64_2_4 13 rfl rfl)
theorem dX2_transpose_64x64_2_108 : decode cX2_transpose_64x64_2 108 = .ok (.iadd, 1) := dk_96 (dk_at dksX2_transpose_64x64_2_4 15 rfl rfl)
theorem dX2_transpose_64x64_2_109 : decode cX2_transpose_64x64_2 109 = .ok (.iconst 2, 1) := dk_5 (dk_at dksX2_transpose_64x64_2_4 16 rfl rfl)
theorem dX2_transpose_64x64_2_110 : decode cX2_transpose_64x64_2 110 = .ok (.iadd, 1) := dk_96 (dk_at dksX2_transpose_64x64_2_4 17 rfl rfl)
theorem dX2_transpose_64x64_2_111 : decode cX2_transpose_64x64_2 111 = .ok (.laload, 1) := dk_47 (dk_at dksX2_transpose_64x64_2_4 18 rfl rfl)
theorem dX2_transpose_64x64_2_112 : decode cX2_transpose_64x64_2 112 = .ok (.lstore 21, 2) := dk_55 21 (dk_at dksX2_transpose_64x64_2_4 19 rfl rfl)
theorem dX2_transpose_64x64_2_114 : decode cX2_transpose_64x64_2 114 = .ok (.aload_n 0, 1) := dk_42 (dk_at dksX2_transpose_64x64_2_4 21 rfl rfl)
theorem dX2_transpose_64x64_2_115 : decode cX2_transpose_64x64_2 115 = .ok (.iload 8, 2) := dk_21 8 (dk_at dksX2_transpose_64x64_2_4 22 rfl rfl)
theorem dX2_transpose_64x64_2_117 : decode cX2_transpose_64x64_2 117 = .ok (.iload 6, 2) := dk_21 6 (dk_at dksX2_transpose_64x64_2_5 0 rfl rfl)
theorem dX2_transpose_64x64_2_119 : decode cX2_transpose_64x64_2 119 = .ok (.iadd, 1) := dk_96 (dk_at dksX2_transpose_64x64_2_5 2 rfl rfl)
theorem dX2_transpose_64x64_2_120 : decode cX2_transpose_64x64_2 120 = .ok (.iconst 3, 1) := dk_6 (dk_at dksX2_transpose_64x64_2_5 3 rfl rfl)
theorem dX2_transpose_64x64_2_121 : decode cX2_transpose_64x64_2 121 = .ok (.iadd, 1) := dk_96 (dk_at dksX2_transpose_64x64_2_5 4 rfl rfl)
theorem dX2_transpose_64x64_2_122 : decode cX2_transpose_64x64_2 122 = .ok (.laload, 1) := dk_47 (dk_at dksX2_transpose_64x64_2_5 5 rfl rfl)
theorem dX2_transpose_64x64_2_123 : decode cX2_transpose_64x64_2 123 = .ok (.lstore 23, 2) := dk_55 23 (dk_at dksX2_transpose_64x64_2_5 6 rfl rfl)
theorem dX2_transpose_64x64_2_125 : decode cX2_transpose_64x64_2 125 = .ok (.lload 9, 2) := dk_22 9 (dk_at dksX2_transpose_64x64_2_5 8 rfl rfl)
theorem dX2_transpose_64x64_2_127 : decode cX2_transpose_64x64_2 127 = .ok (.iload 6, 2) := dk_21 6 (dk_at dksX2_transpose_64x64_2_5 10 rfl rfl)
theorem dX2_transpose_64x64_2_129 : decode cX2_transpose_64x64_2 129 = .ok (.lushr, 1) := dk_125 (dk_at dksX2_transpose_64x64_2_5 12 rfl rfl)
theorem dX2_transpose_64x64_2_130 : decode cX2_transpose_64x64_2 130 = .ok (.lload 17, 2) := dk_22 17 (dk_at dksX2_transpose_64x64_2_5 13 rfl rfl)
theorem dX2_transpose_64x64_2_132 : decode cX2_transpose_64x64_2 132 = .ok (.lxor, 1) := dk_131 (dk_at dksX2_transpose_64x64_2_5 15 rfl rfl)
theorem dX2_transpose_64x64_2_133 : decode cX2_transpose_64x64_2 133 = .ok (.lload 4, 2) := dk_22 4 (dk_at dksX2_transpose_64x64_2_5 16 rfl rfl)
theorem dX2_transpose_64x64_2_135 : decode cX2_transpose_64x64_2 135 = .ok (.land, 1) := dk_127 (dk_at dksX2_transpose_64x64_2_5 18 rfl rfl)
theorem dX2_transpose_64x64_2_136 : decode cX2_transpose_64x64_2 136 = .ok (.lstore 25, 2) := dk_55 25 (dk_at dksX2_transpose_64x64_2_5 19 rfl rfl)
theorem dX2_transpose_64x64_2_138 : decode cX2_transpose_64x64_2 138 = .ok (.lload 11, 2) := dk_22 11 (dk_at dksX2_transpose_64x64_2_5 21 rfl rfl)
theorem dX2_transpose_64x64_2_140 : decode cX2_transpose_64x64_2 140 = .ok (.iload 6, 2) := dk_21 6 (dk_at dksX2_transpose_64x64_2_6 0 rfl rfl)
theorem dX2_transpose_64x64_2_142 : decode cX2_transpose_64x64_2 142 = .ok (.lushr, 1) := dk_125 (dk_at dksX2_transpose_64x64_2_6 2 rfl rfl)
theorem dX2_transpose_64x64_2_143 : decode cX2_transpose_64x64_2 143 = .ok (.lload 19, 2) := dk_22 19 (dk_at dksX2_transpose_64x64_2_6 3 rfl rfl)
theorem dX2_transpose_64x64_2_145 : decode cX2_transpose_64x64_2 145 = .ok (.lxor, 1) := dk_131 (dk_at dksX2_transpose_64x64_2_6 5 rfl rfl)
theorem dX2_transpose_64x64_2_146 : decode cX2_transpose_64x64_2 146 = .ok (.lload 4, 2) := dk_22 4 (dk_at dksX2_transpose_64x64_2_6 6 rfl rfl)
theorem dX2_transpose_64x64_2_148 : decode cX2_transpose_64x64_2 148 = .ok (.land, 1) := dk_127 (dk_at dksX2_transpose_64x64_2_6 8 rfl rfl)
theorem dX2_transpose_64x64_2_149 : decode cX2_transpose_64x64_2 149 = .ok (.lstore 27, 2) := dk_55 27 (dk_at dksX2_transpose_64x64_2_6 9 rfl rfl)
theorem dX2_transpose_64x64_2_151 : decode cX2_transpose_64x64_2 151 = .ok (.lload 13, 2) := dk_22 13 (dk_at dksX2_transpose_64x64_2_6 11 rfl rfl)
theorem dX2_transpose_64x64_2_153 : decode cX2_transpose_64x64_2 153 = .ok (.iload 6, 2) := dk_21 6 (dk_at dksX2_transpose_64x64_2_6 13 rfl rfl)
theorem dX2_transpose_64x64_2_155 : decode cX2_transpose_64x64_2 155 = .ok (.lushr, 1) := dk_125 (dk_at dksX2_transpose_64x64_2_6 15 rfl rfl)
theorem dX2_transpose_64x64_2_156 : decode cX2_transpose_64x64_2 156 = .ok (.lload 21, 2) := dk_22 21 (dk_at dksX2_transpose_64x64_2_6 16 rfl rfl)
theorem dX2_transpose_64x64_2_158 : decode cX2_transpose_64x64_2 158 = .ok (.lxor, 1) := dk_131 (dk_at dksX2_transpose_64x64_2_6 18 rfl rfl)
theorem dX2_transpose_64x64_2_159 : decode cX2_transpose_64x64_2 159 = .ok (.lload 4, 2) := dk_22 4 (dk_at dksX2_transpose_64x64_2_6 19 rfl rfl)
theorem dX2_transpose_64x64_2_161 : decode cX2_transpose_64x64_2 161 = .ok (.land, 1) := dk_127 (dk_at dksX2_transpose_64x64_2_6 21 rfl rfl)
theorem dX2_transpose_64x64_2_162 : decode cX2_transpose_64x64_2 162 = .ok (.lstore 29, 2) := dk_55 29 (dk_at dksX2_transpose_64x64_2_6 22 rfl rfl)
theorem dX2_transpose_64x64_2_164 : decode cX2_transpose_64x64_2 164 = .ok (.lload 15, 2) := dk_22 15 (dk_at dksX2_transpose_64x64_2_7 0 rfl rfl)
theorem dX2_transpose_64x64_2_166 : decode cX2_transpose_64x64_2 166 = .ok (.iload 6, 2) := dk_21 6 (dk_at dksX2_transpose_64x64_2_7 2 rfl rfl)
theorem dX2_transpose_64x64_2_168 : decode cX2_transpose_64x64_2 168 = .ok (.lushr, 1) := dk_125 (dk_at dksX2_transpose_64x64_2_7 4 rfl rfl)
theorem dX2_transpose_64x64_2_169 : decode cX2_transpose_64x64_2 169 = .ok (.lload 23, 2) := dk_22 23 (dk_at dksX2_transpose_64x64_2_7 5 rfl rfl)
theorem dX2_transpose_64x64_2_171 : decode cX2_transpose_64x64_2 171 = .ok (.lxor, 1) := dk_131 (dk_at dksX2_transpose_64x64_2_7 7 rfl rfl)
theorem dX2_transpose_64x64_2_172 : decode cX2_transpose_64x64_2 172 = .ok (.lload 4, 2) := dk_22 4 (dk_at dksX2_transpose_64x64_2_7 8 rfl rfl)
theorem dX2_transpose_64x64_2_174 : decode cX2_transpose_64x64_2 174 = .ok (.land, 1) := dk_127 (dk_at dksX2_transpose_64x64_2_7 10 rfl rfl)
theorem dX2_transpose_64x64_2_175 : decode cX2_transpose_64x64_2 175 = .ok (.lstore 31, 2) := dk_55 31 (dk_at dksX2_transpose_64x64_2_7 11 rfl rfl)
theorem dX2_transpose_64x64_2_177 : decode cX2_transpose_64x64_2 177 = .ok (.aload_n 0, 1) := dk_42 (dk_at dksX2_transpose_64x64_2_7 13 rfl rfl)
theorem dX2_transpose_64x64_2_178 : decode cX2_transpose_64x64_2 178 = .ok (.iload 8, 2) := dk_21 8 (dk_at dksX2_transpose_64x64_2_7 14 rfl rfl)
theorem dX2_transpose_64x64_2_180 : decode cX2_transpose_64x64_2 180 = .ok (.iconst 0, 1) := dk_3 (dk_at dksX2_transpose_64x64_2_7 16 rfl rfl)
theorem dX2_transpose_64x64_2_181 : decode cX2_transpose_64x64_2 181 = .ok (.iadd, 1) := dk_96 (dk_at dksX2_transpose_64x64_2_7 17 rfl rfl)
theorem dX2_transpose_64x64_2_182 : decode cX2_transpose_64x64_2 182 = .ok (.lload 9, 2) := dk_22 9 (dk_at dksX2_transpose_64x64_2_7 18 rfl rfl)
theorem dX2_transpose_64x64_2_184 : decode cX2_transpose_64x64_2 184 = .ok (.lload 25, 2) := dk_22 25 (dk_at dksX2_transpose_64x64_2_7 20 rfl rfl)
theorem dX2_transpose_64x64_2_186 : decode cX2_transpose_64x64_2 186 = .ok (.iload 6, 2) := dk_21 6 (dk_at dksX2_transpose_64x64_2_7 22 rfl rfl)
theorem dX2_transpose_64x64_2_188 : decode cX2_transpose_64x64_2 188 = .ok (.lshl, 1) := dk_121 (dk_at dksX2_transpose_64x64_2_8 0 rfl rfl)
theorem dX2_transpose_64x64_2_189 : decode cX2_transpose_64x64_2 189 = .ok (.lxor, 1) := dk_131 (dk_at dksX2_transpose_64x64_2_8 1 rfl rfl)
theorem dX2_transpose_64x64_2_190 : decode cX2_transpose_64x64_2 190 = .ok (.lastore, 1) := dk_80 (dk_at dksX2_transpose_64x64_2_8 2 rfl rfl)
theorem dX2_transpose_64x64_2_191 : decode cX2_transpose_64x64_2 191 = .ok (.aload_n 0, 1) := dk_42 (dk_at dksX2_transpose_64x64_2_8 3 rfl rfl)
theorem dX2_transpose_64x64_2_192 : decode cX2_transpose_64x64_2 192 = .ok (.iload 8, 2) := dk_21 8 (dk_at dksX2_transpose_64x64_2_8 4 rfl rfl)
theorem dX2_transpose_64x64_2_194 : decode cX2_transpose_64x64_2 194 = .ok (.iconst 1, 1) := dk_4 (dk_at dksX2_transpose_64x64_2_8 6 rfl rfl)
theorem dX2_transpose_64x64_2_195 : decode cX2_transpose_64x64_2 195 = .ok (.iadd, 1) := dk_96 (dk_at dksX2_transpose_64x64_2_8 7 rfl rfl)
theorem dX2_transpose_64x64_2_196 : decode cX2_transpose_64x64_2 196 = .ok (.lload 11, 2) := dk_22 11 (dk_at dksX2_transpose_64x64_2_8 8 rfl rfl)
theorem dX2_transpose_64x64_2_198 : decode cX2_transpose_64x64_2 198 = .ok (.lload 27, 2) := dk_22 27 (dk_at dksX2_transpose_64x64_2_8 10 rfl rfl)
theorem dX2_transpose_64x64_2_200 : decode cX2_transpose_64x64_2 200 = .ok (.iload 6, 2) := dk_21 6 (dk_at dksX2_transpose_64x64_2_8 12 rfl rfl)
theorem dX2_transpose_64x64_2_202 : decode cX2_transpose_64x64_2 202 = .ok (.lshl, 1) := dk_121 (dk_at dksX2_transpose_64x64_2_8 14 rfl rfl)
theorem dX2_transpose_64x64_2_203 : decode cX2_transpose_64x64_2 203 = .ok (.lxor, 1) := dk_131 (dk_at dksX2_transpose_64x64_2_8 15 rfl rfl)
theorem dX2_transpose_64x64_2_204 : decode cX2_transpose_64x64_2 204 = .ok (.lastore, 1) := dk_80 (dk_at dksX2_transpose_64x64_2_8 16 rfl rfl)
theorem dX2_transpose_64x64_2_205 : decode cX2_transpose_64x64_2 205 = .ok (.aload_n 0, 1) := dk_42 (dk_at dksX2_transpose_64x64_2_8 17 rfl rfl)
theorem dX2_transpose_64x64_2_206 : decode cX2_transpose_64x64_2 206 = .ok (.iload 8, 2) := dk_21 8 (dk_at dksX2_transpose_64x64_2_8 18 rfl rfl)
theorem dX2_transpose_64x64_2_208 : decode cX2_transpose_64x64_2 208 = .ok (.iconst 2, 1) := dk_5 (dk_at dksX2_transpose_64x64_2_8 20 rfl rfl)
theorem dX2_transpose_64x64_2_209 : decode cX2_transpose_64x64_2 209 = .ok (.iadd, 1) := dk_96 (dk_at dksX2_transpose_64x64_2_8 21 rfl rfl)
theorem dX2_transpose_64x64_2_210 : decode cX2_transpose_64x64_2 210 = .ok (.lload 13, 2) := dk_22 13 (dk_at dksX2_transpose_64x64_2_8 22 rfl rfl)
theorem dX2_transpose_64x64_2_212 : decode cX2_transpose_64x64_2 212 = .ok (.lload 29, 2) := dk_22 29 (dk_at dksX2_transpose_64x64_2_9 0 rfl rfl)
theorem dX2_transpose_64x64_2_214 : decode cX2_transpose_64x64_2 214 = .ok (.iload 6, 2) := dk_21 6 (dk_at dksX2_transpose_64x64_2_9 2 rfl rfl)
theorem dX2_transpose_64x64_2_216 : decode cX2_transpose_64x64_2 216 = .ok (.lshl, 1) := dk_121 (dk_at dksX2_transpose_64x64_2_9 4 rfl rfl)
theorem dX2_transpose_64x64_2_217 : decode cX2_transpose_64x64_2 217 = .ok (.lxor, 1) := dk_131 (dk_at dksX2_transpose_64x64_2_9 5 rfl rfl)
theorem dX2_transpose_64x64_2_218 : decode cX2_transpose_64x64_2 218 = .ok (.lastore, 1) := dk_80 (dk_at dksX2_transpose_64x64_2_9 6 rfl rfl)
theorem dX2_transpose_64x64_2_219 : decode cX2_transpose_64x64_2 219 = .ok (.aload_n 0, 1) := dk_42 (dk_at dksX2_transpose_64x64_2_9 7 rfl rfl)
theorem dX2_transpose_64x64_2_220 : decode cX2_transpose_64x64_2 220 = .ok (.iload 8, 2) := dk_21 8 (dk_at dksX2_transpose_64x64_2_9 8 rfl rfl)
theorem dX2_transpose_64x64_2_222 : decode cX2_transpose_64x64_2 222 = .ok (.iconst 3, 1) := dk_6 (dk_at dksX2_transpose_64x64_2_9 10 rfl rfl)
theorem dX2_transpose_64x64_2_223 : decode cX2_transpose_64x64_2 223 = .ok (.iadd, 1) := dk_96 (dk_at dksX2_transpose_64x64_2_9 11 rfl rfl)
theorem dX2_transpose_64x64_2_224 : decode cX2_transpose_64x64_2 224 = .ok (.lload 15, 2) := dk_22 15 (dk_at dksX2_transpose_64x64_2_9 12 rfl rfl)
theorem dX2_transpose_64x64_2_226 : decode cX2_transpose_64x64_2 226 = .ok (.lload 31, 2) := dk_22 31 (dk_at dksX2_transpose_64x64_2_9 14 rfl rfl)
theorem dX2_transpose_64x64_2_228 : decode cX2_transpose_64x64_2 228 = .ok (.iload 6, 2) := dk_21 6 (dk_at dksX2_transpose_64x64_2_9 16 rfl rfl)
theorem dX2_transpose_64x64_2_230 : decode cX2_transpose_64x64_2 230 = .ok (.lshl, 1) := dk_121 (dk_at dksX2_transpose_64x64_2_9 18 rfl rfl)
theorem dX2_transpose_64x64_2_231 : decode cX2_transpose_64x64_2 231 = .ok (.lxor, 1) := dk_131 (dk_at dksX2_transpose_64x64_2_9 19 rfl rfl)
theorem dX2_transpose_64x64_2_232 : decode cX2_transpose_64x64_2 232 = .ok (.lastore, 1) := dk_80 (dk_at dksX2_transpose_64x64_2_9 20 rfl rfl)
theorem dX2_transpose_64x64_2_233 : decode cX2_transpose_64x64_2 233 = .ok (.aload_n 0, 1) := dk_42 (dk_at dksX2_transpose_64x64_2_9 21 rfl rfl)
theorem dX2_transpose_64x64_2_234 : decode cX2_transpose_64x64_2 234 = .ok (.iload 8, 2) := dk_21 8 (dk_at dksX2_transpose_64x64_2_9 22 rfl rfl)
theorem dX2_transpose_64x64_2_236 : decode cX2_transpose_64x64_2 236 = .ok (.iload 6, 2) := dk_21 6 (dk_at dksX2_transpose_64x64_2_10 0 rfl rfl)
theorem dX2_transpose_64x64_2_238 : decode cX2_transpose_64x64_2 238 = .ok (.iadd, 1) := dk_96 (dk_at dksX2_transpose_64x64_2_10 2 rfl rfl)
theorem dX2_transpose_64x64_2_239 : decode cX2_transpose_64x64_2 239 = .ok (.iconst 0, 1) := dk_3 (dk_at dksX2_transpose_64x64_2_10 3 rfl rfl)
theorem dX2_transpose_64x64_2_240 : decode cX2_transpose_64x64_2 240 = .ok (.iadd, 1) := dk_96 (dk_at dksX2_transpose_64x64_2_10 4 rfl rfl)
theorem dX2_transpose_64x64_2_241 : decode cX2_transpose_64x64_2 241 = .ok (.lload 17, 2) := dk_22 17 (dk_at dksX2_transpose_64x64_2_10 5 rfl rfl)
theorem dX2_transpose_64x64_2_243 : decode cX2_transpose_64x64_2 243 = .ok (.lload 25, 2) := dk_22 25 (dk_at dksX2_transpose_64x64_2_10 7 rfl rfl)
theorem dX2_transpose_64x64_2_245 : decode cX2_transpose_64x64_2 245 = .ok (.lxor, 1) := dk_131 (dk_at dksX2_transpose_64x64_2_10 9 rfl rfl)
theorem dX2_transpose_64x64_2_246 : decode cX2_transpose_64x64_2 246 = .ok (.lastore, 1) := dk_80 (dk_at dksX2_transpose_64x64_2_10 10 rfl rfl)
theorem dX2_transpose_64x64_2_247 : decode cX2_transpose_64x64_2 247 = .ok (.aload_n 0, 1) := dk_42 (dk_at dksX2_transpose_64x64_2_10 11 rfl rfl)
theorem dX2_transpose_64x64_2_248 : decode cX2_transpose_64x64_2 248 = .ok (.iload 8, 2) := dk_21 8 (dk_at dksX2_transpose_64x64_2_10 12 rfl rfl)
theorem dX2_transpose_64x64_2_250 : decode cX2_transpose_64x64_2 250 = .ok (.iload 6, 2) := dk_21 6 (dk_at dksX2_transpose_64x64_2_10 14 rfl rfl)
theorem dX2_transpose_64x64_2_252 : decode cX2_transpose_64x64_2 252 = .ok (.iadd, 1) := dk_96 (dk_at dksX2_transpose_64x64_2_10 16 rfl rfl)
theorem dX2_transpose_64x64_2_253 : decode cX2_transpose_64x64_2 253 = .ok (.iconst 1, 1) := dk_4 (dk_at dksX2_transpose_64x64_2_10 17 rfl rfl)
theorem dX2_transpose_64x64_2_254 : decode cX2_transpose_64x64_2 254 = .ok (.iadd, 1) := dk_96 (dk_at dksX2_transpose_64x64_2_10 18 rfl rfl)
theorem dX2_transpose_64x64_2_255 : decode cX2_transpose_64x64_2 255 = .ok (.lload 19, 2) := dk_22 19 (dk_at dksX2_transpose_64x64_2_10 19 rfl rfl)
theorem dX2_transpose_64x64_2_257 : decode cX2_transpose_64x64_2 257 = .ok (.lload 27, 2) := dk_22 27 (dk_at dksX2_transpose_64x64_2_10 21 rfl rfl)
theorem dX2_transpose_64x64_2_259 : decode cX2_transpose_64x64_2 259 = .ok (.lxor, 1) := dk_131 (dk_at dksX2_transpose_64x64_2_10 23 rfl rfl)
theorem dX2_transpose_64x64_2_260 : decode cX2_transpose_64x64_2 260 = .ok (.lastore, 1) := dk_80 (dk_at dksX2_transpose_64x64_2_11 0 rfl rfl)
theorem dX2_transpose_64x64_2_261 : decode cX2_transpose_64x64_2 261 = .ok (.aload_n 0, 1) := dk_42 (dk_at dksX2_transpose_64x64_2_11 1 rfl rfl)
theorem dX2_transpose_64x64_2_262 : decode cX2_transpose_64x64_2 262 = .ok (.iload 8, 2) := dk_21 8 (dk_at dksX2_transpose_64x64_2_11 2 rfl rfl)
theorem dX2_transpose_64x64_2_264 : decode cX2_transpose_64x64_2 264 = .ok (.iload 6, 2) := dk_21 6 (dk_at dksX2_transpose_64x64_2_11 4 rfl rfl)
theorem dX2_transpose_64x64_2_266 : decode cX2_transpose_64x64_2 266 = .ok (.iadd, 1) := dk_96 (dk_at dksX2_transpose_64x64_2_11 6 rfl rfl)
theorem dX2_transpose_64x64_2_267 : decode cX2_transpose_64x64_2 267 = .ok (.iconst 2, 1) := dk_5 (dk_at dksX2_transpose_64x64_2_11 7 rfl rfl)
theorem dX2_transpose_64x64_2_268 : decode cX2_transpose_64x64_2 268 = .ok (.iadd, 1) := dk_96 (dk_at dksX2_transpose_64x64_2_11 8 rfl rfl)
theorem dX2_transpose_64x64_2_269 : decode cX2_transpose_64x64_2 269 = .ok (.lload 21, 2) := dk_22 21 (dk_at dksX2_transpose_64x64_2_11 9 rfl rfl)
theorem dX2_transpose_64x64_2_271 : decode cX2_transpose_64x64_2 271 = .ok (.lload 29, 2) := dk_22 29 (dk_at dksX2_transpose_64x64_2_11 11 rfl rfl)
theorem dX2_transpose_64x64_2_273 : decode cX2_transpose_64x64_2 273 = .ok (.lxor, 1) := dk_131 (dk_at dksX2_transpose_64x64_2_11 13 rfl rfl)
theorem dX2_transpose_64x64_2_274 : decode cX2_transpose_64x64_2 274 = .ok (.lastore, 1) := dk_80 (dk_at dksX2_transpose_64x64_2_11 14 rfl rfl)
theorem dX2_transpose_64x64_2_275 : decode cX2_transpose_64x64_2 275 = .ok (.aload_n 0, 1) := dk_42 (dk_at dksX2_transpose_64x64_2_11 15 rfl rfl)
theorem dX2_transpose_64x64_2_276 : decode cX2_transpose_64x64_2 276 = .ok (.iload 8, 2) := dk_21 8 (dk_at dksX2_transpose_64x64_2_11 16 rfl rfl)
theorem dX2_transpose_64x64_2_278 : decode cX2_transpose_64x64_2 278 = .ok (.iload 6, 2) := dk_21 6 (dk_at dksX2_transpose_64x64_2_11 18 rfl rfl)
theorem dX2_transpose_64x64_2_280 : decode cX2_transpose_64x64_2 280 = .ok (.iadd, 1) := dk_96 (dk_at dksX2_transpose_64x64_2_11 20 rfl rfl)
theorem dX2_transpose_64x64_2_281 : decode cX2_transpose_64x64_2 281 = .ok (.iconst 3, 1) := dk_6 (dk_at dksX2_transpose_64x64_2_11 21 rfl rfl)
theorem dX2_transpose_64x64_2_282 : decode cX2_transpose_64x64_2 282 = .ok (.iadd, 1) := dk_96 (dk_at dksX2_transpose_64x64_2_11 22 rfl rfl)
theorem dX2_transpose_64x64_2_283 : decode cX2_transpose_64x64_2 283 = .ok (.lload 23, 2) := dk_22 23 (dk_at dksX2_transpose_64x64_2_12 0 rfl rfl)
theorem dX2_transpose_64x64_2_285 : decode cX2_transpose_64x64_2 285 = .ok (.lload 31, 2) := dk_22 31 (dk_at dksX2_transpose_64x64_2_12 2 rfl rfl)
theorem dX2_transpose_64x64_2_287 : decode cX2_transpose_64x64_2 287 = .ok (.lxor, 1) := dk_131 (dk_at dksX2_transpose_64x64_2_12 4 rfl rfl)
theorem dX2_transpose_64x64_2_288 : decode cX2_transpose_64x64_2 288 = .ok (.lastore, 1) := dk_80 (dk_at dksX2_transpose_64x64_2_12 5 rfl rfl)
theorem dX2_transpose_64x64_2_289 : decode cX2_transpose_64x64_2 289 = .ok (.iinc 8 4, 3) := dk_132 8 4 (dk_at dksX2_transpose_64x64_2_12 6 rfl rfl)
theorem dX2_transpose_64x64_2_292 : decode cX2_transpose_64x64_2 292 = .ok (.goto (-253), 3) := dk_167 255 3 (dk_at dksX2_transpose_64x64_2_12 9 rfl rfl)
theorem dX2_transpose_64x64_2_295 : decode cX2_transpose_64x64_2 295 = .ok (.iload 7, 2) := dk_21 7 (dk_at dksX2_transpose_64x64_2_12 12 rfl rfl)
theorem dX2_transpose_64x64_2_297 : decode cX2_transpose_64x64_2 297 = .ok (.iload 6, 2) := dk_21 6 (dk_at dksX2_transpose_64x64_2_12 14 rfl rfl)
theorem dX2_transpose_64x64_2_299 : decode cX2_transpose_64x64_2 299 = .ok (.iconst 2, 1) := dk_5 (dk_at dksX2_transpose_64x64_2_12 16 rfl rfl)
theorem dX2_transpose_64x64_2_300 : decode cX2_transpose_64x64_2 300 = .ok (.imul, 1) := dk_104 (dk_at dksX2_transpose_64x64_2_12 17 rfl rfl)
theorem dX2_transpose_64x64_2_301 : decode cX2_transpose_64x64_2 301 = .ok (.iadd, 1) := dk_96 (dk_at dksX2_transpose_64x64_2_12 18 rfl rfl)
theorem dX2_transpose_64x64_2_302 : decode cX2_transpose_64x64_2 302 = .ok (.istore 7, 2) := dk_54 7 (dk_at dksX2_transpose_64x64_2_12 19 rfl rfl)
theorem dX2_transpose_64x64_2_304 : decode cX2_transpose_64x64_2 304 = .ok (.goto (-278), 3) := dk_167 254 234 (dk_at dksX2_transpose_64x64_2_12 21 rfl rfl)
theorem dX2_transpose_64x64_2_307 : decode cX2_transpose_64x64_2 307 = .ok (.iinc 3 (-1), 3) := dk_132 3 255 (dk_at dksX2_transpose_64x64_2_13 0 rfl rfl)
theorem dX2_transpose_64x64_2_310 : decode cX2_transpose_64x64_2 310 = .ok (.iload_n 3, 1) := dk_29 (dk_at dksX2_transpose_64x64_2_13 3 rfl rfl)
theorem dX2_transpose_64x64_2_311 : decode cX2_transpose_64x64_2 311 = .ok (.iconst 2, 1) := dk_5 (dk_at dksX2_transpose_64x64_2_13 4 rfl rfl)
theorem dX2_transpose_64x64_2_312 : decode cX2_transpose_64x64_2 312 = .ok (.if_icmp .ge (-301), 3) := dk_162 254 211 (dk_at dksX2_transpose_64x64_2_13 5 rfl rfl)
theorem dX2_transpose_64x64_2_315 : decode cX2_transpose_64x64_2 315 = .ok (.getstatic 19, 3) := dk_178 0 19 (dk_at dksX2_transpose_64x64_2_13 8 rfl rfl)
theorem dX2_transpose_64x64_2_318 : decode cX2_transpose_64x64_2 318 = .ok (.iload_n 3, 1) := dk_29 (dk_at dksX2_transpose_64x64_2_13 11 rfl rfl)
theorem dX2_transpose_64x64_2_319 : decode cX2_transpose_64x64_2 319 = .ok (.laload, 1) := dk_47 (dk_at dksX2_transpose_64x64_2_13 12 rfl rfl)
theorem dX2_transpose_64x64_2_320 : decode cX2_transpose_64x64_2 320 = .ok (.lstore 4, 2) := dk_55 4 (dk_at dksX2_transpose_64x64_2_13 13 rfl rfl)
theorem dX2_transpose_64x64_2_322 : decode cX2_transpose_64x64_2 322 = .ok (.iconst 1, 1) := dk_4 (dk_at dksX2_transpose_64x64_2_13 15 rfl rfl)
theorem dX2_transpose_64x64_2_323 : decode cX2_transpose_64x64_2 323 = .ok (.iload_n 3, 1) := dk_29 (dk_at dksX2_transpose_64x64_2_13 16 rfl rfl)
theorem dX2_transpose_64x64_2_324 : decode cX2_transpose_64x64_2 324 = .ok (.ishl, 1) := dk_120 (dk_at dksX2_transpose_64x64_2_13 17 rfl rfl)
theorem dX2_transpose_64x64_2_325 : decode cX2_transpose_64x64_2 325 = .ok (.istore 6, 2) := dk_54 6 (dk_at dksX2_transpose_64x64_2_13 18 rfl rfl)
theorem dX2_transpose_64x64_2_327 : decode cX2_transpose_64x64_2 327 = .ok (.iload_n 2, 1) := dk_28 (dk_at dksX2_transpose_64x64_2_13 20 rfl rfl)
theorem dX2_transpose_64x64_2_328 : decode cX2_transpose_64x64_2 328 = .ok (.istore 7, 2) := dk_54 7 (dk_at dksX2_transpose_64x64_2_13 21 rfl rfl)
theorem dX2_transpose_64x64_2_330 : decode cX2_transpose_64x64_2 330 = .ok (.iload 7, 2) := dk_21 7 (dk_at dksX2_transpose_64x64_2_14 0 rfl rfl)
theorem dX2_transpose_64x64_2_332 : decode cX2_transpose_64x64_2 332 = .ok (.iload_n 2, 1) := dk_28 (dk_at dksX2_transpose_64x64_2_14 2 rfl rfl)
theorem dX2_transpose_64x64_2_333 : decode cX2_transpose_64x64_2 333 = .ok (.bipush 64, 2) := dk_16 64 (dk_at dksX2_transpose_64x64_2_14 3 rfl rfl)
theorem dX2_transpose_64x64_2_335 : decode cX2_transpose_64x64_2 335 = .ok (.iadd, 1) := dk_96 (dk_at dksX2_transpose_64x64_2_14 5 rfl rfl)
theorem dX2_transpose_64x64_2_336 : decode cX2_transpose_64x64_2 336 = .ok (.if_icmp .ge 91, 3) := dk_162 0 91 (dk_at dksX2_transpose_64x64_2_14 6 rfl rfl)
theorem dX2_transpose_64x64_2_339 : decode cX2_transpose_64x64_2 339 = .ok (.iload 7, 2) := dk_21 7 (dk_at dksX2_transpose_64x64_2_14 9 rfl rfl)
theorem dX2_transpose_64x64_2_341 : decode cX2_transpose_64x64_2 341 = .ok (.istore 8, 2) := dk_54 8 (dk_at dksX2_transpose_64x64_2_14 11 rfl rfl)
theorem dX2_transpose_64x64_2_343 : decode cX2_transpose_64x64_2 343 = .ok (.iload 8, 2) := dk_21 8 (dk_at dksX2_transpose_64x64_2_14 13 rfl rfl)
theorem dX2_transpose_64x64_2_345 : decode cX2_transpose_64x64_2 345 = .ok (.iload 7, 2) := dk_21 7 (dk_at dksX2_transpose_64x64_2_14 15 rfl rfl)
theorem dX2_transpose_64x64_2_347 : decode cX2_transpose_64x64_2 347 = .ok (.iload 6, 2) := dk_21 6 (dk_at dksX2_transpose_64x64_2_14 17 rfl rfl)
theorem dX2_transpose_64x64_2_349 : decode cX2_transpose_64x64_2 349 = .ok (.iadd, 1) := dk_96 (dk_at dksX2_transpose_64x64_2_14 19 rfl rfl)
theorem dX2_transpose_64x64_2_350 : decode cX2_transpose_64x64_2 350 = .ok (.if_icmp .ge 65, 3) := dk_162 0 65 (dk_at dksX2_transpose_64x64_2_14 20 rfl rfl)
theorem dX2_transpose_64x64_2_353 : decode cX2_transpose_64x64_2 353 = .ok (.aload_n 0, 1) := dk_42 (dk_at dksX2_transpose_64x64_2_14 23 rfl rfl)
theorem dX2_transpose_64x64_2_354 : decode cX2_transpose_64x64_2 354 = .ok (.iload 8, 2) := dk_21 8 (dk_at dksX2_transpose_64x64_2_15 0 rfl rfl)
theorem dX2_transpose_64x64_2_356 : decode cX2_transpose_64x64_2 356 = .ok (.iconst 0, 1) := dk_3 (dk_at dksX2_transpose_64x64_2_15 2 rfl rfl)
theorem dX2_transpose_64x64_2_357 : decode cX2_transpose_64x64_2 357 = .ok (.iadd, 1) := dk_96 (dk_at dksX2_transpose_64x64_2_15 3 rfl rfl)
theorem dX2_transpose_64x64_2_358 : decode cX2_transpose_64x64_2 358 = .ok (.laload, 1) := dk_47 (dk_at dksX2_transpose_64x64_2_15 4 rfl rfl)
theorem dX2_transpose_64x64_2_359 : decode cX2_transpose_64x64_2 359 = .ok (.lstore 9, 2) := dk_55 9 (dk_at dksX2_transpose_64x64_2_15 5 rfl rfl)
theorem dX2_transpose_64x64_2_361 : decode cX2_transpose_64x64_2 361 = .ok (.aload_n 0, 1) := dk_42 (dk_at dksX2_transpose_64x64_2_15 7 rfl rfl)
theorem dX2_transpose_64x64_2_362 : decode cX2_transpose_64x64_2 362 = .ok (.iload 8, 2) := dk_21 8 (dk_at dksX2_transpose_64x64_2_15 8 rfl rfl)
theorem dX2_transpose_64x64_2_364 : decode cX2_transpose_64x64_2 364 = .ok (.iload 6, 2) := dk_21 6 (dk_at dksX2_transpose_64x64_2_15 10 rfl rfl)
theorem dX2_transpose_64x64_2_366 : decode cX2_transpose_64x64_2 366 = .ok (.iadd, 1) := dk_96 (dk_at dksX2_transpose_64x64_2_15 12 rfl rfl)
theorem dX2_transpose_64x64_2_367 : decode cX2_transpose_64x64_2 367 = .ok (.laload, 1) := dk_47 (dk_at dksX2_transpose_64x64_2_15 13 rfl rfl)
theorem dX2_transpose_64x64_2_368 : decode cX2_transpose_64x64_2 368 = .ok (.lstore 11, 2) := dk_55 11 (dk_at dksX2_transpose_64x64_2_15 14 rfl rfl)
theorem dX2_transpose_64x64_2_370 : decode cX2_transpose_64x64_2 370 = .ok (.lload 9, 2) := dk_22 9 (dk_at dksX2_transpose_64x64_2_15 16 rfl rfl)
theorem dX2_transpose_64x64_2_372 : decode cX2_transpose_64x64_2 372 = .ok (.iload 6, 2) := dk_21 6 (dk_at dksX2_transpose_64x64_2_15 18 rfl rfl)
theorem dX2_transpose_64x64_2_374 : decode cX2_transpose_64x64_2 374 = .ok (.lushr, 1) := dk_125 (dk_at dksX2_transpose_64x64_2_15 20 rfl rfl)
theorem dX2_transpose_64x64_2_375 : decode cX2_transpose_64x64_2 375 = .ok (.lload 11, 2) := dk_22 11 (dk_at dksX2_transpose_64x64_2_15 21 rfl rfl)
theorem dX2_transpose_64x64_2_377 : decode cX2_transpose_64x64_2 377 = .ok (.lxor, 1) := dk_131 (dk_at dksX2_transpose_64x64_2_15 23 rfl rfl)
theorem dX2_transpose_64x64_2_378 : decode cX2_transpose_64x64_2 378 = .ok (.lload 4, 2) := dk_22 4 (dk_at dksX2_transpose_64x64_2_16 0 rfl rfl)
theorem dX2_transpose_64x64_2_380 : decode cX2_transpose_64x64_2 380 = .ok (.land, 1) := dk_127 (dk_at dksX2_transpose_64x64_2_16 2 rfl rfl)
theorem dX2_transpose_64x64_2_381 : decode cX2_transpose_64x64_2 381 = .ok (.lstore 13, 2) := dk_55 13 (dk_at dksX2_transpose_64x64_2_16 3 rfl rfl)
theorem dX2_transpose_64x64_2_383 : decode cX2_transpose_64x64_2 383 = .ok (.aload_n 0, 1) := dk_42 (dk_at dksX2_transpose_64x64_2_16 5 rfl rfl)
theorem dX2_transpose_64x64_2_384 : decode cX2_transpose_64x64_2 384 = .ok (.iload 8, 2) := dk_21 8 (dk_at dksX2_transpose_64x64_2_16 6 rfl rfl)
theorem dX2_transpose_64x64_2_386 : decode cX2_transpose_64x64_2 386 = .ok (.iconst 0, 1) := dk_3 (dk_at dksX2_transpose_64x64_2_16 8 rfl rfl)
theorem dX2_transpose_64x64_2_387 : decode cX2_transpose_64x64_2 387 = .ok (.iadd, 1) := dk_96 (dk_at dksX2_transpose_64x64_2_16 9 rfl rfl)
theorem dX2_transpose_64x64_2_388 : decode cX2_transpose_64x64_2 388 = .ok (.lload 9, 2) := dk_22 9 (dk_at dksX2_transpose_64x64_2_16 10 rfl rfl)
theorem dX2_transpose_64x64_2_390 : decode cX2_transpose_64x64_2 390 = .ok (.lload 13, 2) := dk_22 13 (dk_at dksX2_transpose_64x64_2_16 12 rfl rfl)
theorem dX2_transpose_64x64_2_392 : decode cX2_transpose_64x64_2 392 = .ok (.iload 6, 2) := dk_21 6 (dk_at dksX2_transpose_64x64_2_16 14 rfl rfl)
theorem dX2_transpose_64x64_2_394 : decode cX2_transpose_64x64_2 394 = .ok (.lshl, 1) := dk_121 (dk_at dksX2_transpose_64x64_2_16 16 rfl rfl)
theorem dX2_transpose_64x64_2_395 : decode cX2_transpose_64x64_2 395 = .ok (.lxor, 1) := dk_131 (dk_at dksX2_transpose_64x64_2_16 17 rfl rfl)
theorem dX2_transpose_64x64_2_396 : decode cX2_transpose_64x64_2 396 = .ok (.lastore, 1) := dk_80 (dk_at dksX2_transpose_64x64_2_16 18 rfl rfl)
theorem dX2_transpose_64x64_2_397 : decode cX2_transpose_64x64_2 397 = .ok (.aload_n 0, 1) := dk_42 (dk_at dksX2_transpose_64x64_2_16 19 rfl rfl)
theorem dX2_transpose_64x64_2_398 : decode cX2_transpose_64x64_2 398 = .ok (.iload 8, 2) := dk_21 8 (dk_at dksX2_transpose_64x64_2_16 20 rfl rfl)
theorem dX2_transpose_64x64_2_400 : decode cX2_transpose_64x64_2 400 = .ok (.iload 6, 2) := dk_21 6 (dk_at dksX2_transpose_64x64_2_16 22 rfl rfl)
theorem dX2_transpose_64x64_2_402 : decode cX2_transpose_64x64_2 402 = .ok (.iadd, 1) := dk_96 (dk_at dksX2_transpose_64x64_2_17 0 rfl rfl)
theorem dX2_transpose_64x64_2_403 : decode cX2_transpose_64x64_2 403 = .ok (.lload 11, 2) := dk_22 11 (dk_at dksX2_transpose_64x64_2_17 1 rfl rfl)
theorem dX2_transpose_64x64_2_405 : decode cX2_transpose_64x64_2 405 = .ok (.lload 13, 2) := dk_22 13 (dk_at dksX2_transpose_64x64_2_17 3 rfl rfl)
theorem dX2_transpose_64x64_2_407 : decode cX2_transpose_64x64_2 407 = .ok (.lxor, 1) := dk_131 (dk_at dksX2_transpose_64x64_2_17 5 rfl rfl)
theorem dX2_transpose_64x64_2_408 : decode cX2_transpose_64x64_2 408 = .ok (.lastore, 1) := dk_80 (dk_at dksX2_transpose_64x64_2_17 6 rfl rfl)
theorem dX2_transpose_64x64_2_409 : decode cX2_transpose_64x64_2 409 = .ok (.iinc 8 1, 3) := dk_132 8 1 (dk_at dksX2_transpose_64x64_2_17 7 rfl rfl)
theorem dX2_transpose_64x64_2_412 : decode cX2_transpose_64x64_2 412 = .ok (.goto (-69), 3) := dk_167 255 187 (dk_at dksX2_transpose_64x64_2_17 10 rfl rfl)
theorem dX2_transpose_64x64_2_415 : decode cX2_transpose_64x64_2 415 = .ok (.iload 7, 2) := dk_21 7 (dk_at dksX2_transpose_64x64_2_17 13 rfl rfl)
theorem dX2_transpose_64x64_2_417 : decode cX2_transpose_64x64_2 417 = .ok (.iload 6, 2) := dk_21 6 (dk_at dksX2_transpose_64x64_2_17 15 rfl rfl)
theorem dX2_transpose_64x64_2_419 : decode cX2_transpose_64x64_2 419 = .ok (.iconst 2, 1) := dk_5 (dk_at dksX2_transpose_64x64_2_17 17 rfl rfl)
theorem dX2_transpose_64x64_2_420 : decode cX2_transpose_64x64_2 420 = .ok (.imul, 1) := dk_104 (dk_at dksX2_transpose_64x64_2_17 18 rfl rfl)
theorem dX2_transpose_64x64_2_421 : decode cX2_transpose_64x64_2 421 = .ok (.iadd, 1) := dk_96 (dk_at dksX2_transpose_64x64_2_17 19 rfl rfl)
theorem dX2_transpose_64x64_2_422 : decode cX2_transpose_64x64_2 422 = .ok (.istore 7, 2) := dk_54 7 (dk_at dksX2_transpose_64x64_2_17 20 rfl rfl)
theorem dX2_transpose_64x64_2_424 : decode cX2_transpose_64x64_2 424 = .ok (.goto (-94), 3) := dk_167 255 162 (dk_at dksX2_transpose_64x64_2_18 0 rfl rfl)
theorem dX2_transpose_64x64_2_427 : decode cX2_transpose_64x64_2 427 = .ok (.iinc 3 (-1), 3) := dk_132 3 255 (dk_at dksX2_transpose_64x64_2_18 3 rfl rfl)
theorem dX2_transpose_64x64_2_430 : decode cX2_transpose_64x64_2 430 = .ok (.iload_n 3, 1) := dk_29 (dk_at dksX2_transpose_64x64_2_18 6 rfl rfl)
theorem dX2_transpose_64x64_2_431 : decode cX2_transpose_64x64_2 431 = .ok (.ifCond .ge (-116), 3) := dk_156 255 140 (dk_at dksX2_transpose_64x64_2_18 7 rfl rfl)
theorem dX2_transpose_64x64_2_434 : decode cX2_transpose_64x64_2 434 = .ok (.return_, 1) := dk_177 (dk_at dksX2_transpose_64x64_2_18 10 rfl rfl)
theorem q5 : (Jvm.Cond.initialized "BENES") ∈ lw_all := lw_g (lw_at lw_m0 3 rfl) rfl
theorem q38 : (Jvm.Cond.static ({ cls := "BENES", name := "transpose_64x64", desc := "([J[J)V" } : Jvm.MethodName)) ∈ lw_all := lw_g (lw_at lw_m0 36 rfl) rfl
theorem q39 : (Jvm.Cond.code ({ cls := "BENES", name := "transpose_64x64", desc := "([J[J)V" } : Jvm.MethodName) prog_1_method_2_code (2 : Nat) (Option.none : Option Jvm.ClassFile.FieldType)) ∈ lw_all := lw_g (lw_at lw_m0 37 rfl) rfl
theorem q40 : (Jvm.Cond.methodLink "BENES" (7 : Nat) ({ cls := "BENES", name := "transpose_64x64", desc := "([J[JI)V" } : Jvm.MethodName)) ∈ lw_all := lw_g (lw_at lw_m0 38 rfl) rfl
theorem q41 : (Jvm.Cond.static ({ cls := "BENES", name := "transpose_64x64", desc := "([J[JI)V" } : Jvm.MethodName)) ∈ lw_all := lw_g (lw_at lw_m0 39 rfl) rfl
theorem q42 : (Jvm.Cond.code ({ cls := "BENES", name := "transpose_64x64", desc := "([J[JI)V" } : Jvm.MethodName) prog_1_method_3_code (33 : Nat) (Option.none : Option Jvm.ClassFile.FieldType)) ∈ lw_all := lw_g (lw_at lw_m0 40 rfl) rfl
theorem q43 : (Jvm.Cond.methodLink "BENES" (13 : Nat) ({ cls := "java/lang/System", name := "arraycopy", desc := "(Ljava/lang/Object;ILjava/lang/Object;II)V" } : Jvm.MethodName)) ∈ lw_all := lw_g (lw_at lw_m0 41 rfl) rfl
theorem q46 : (Jvm.Cond.fieldLink "BENES" (19 : Nat) "BENES" "TRANSPOSE_MASKS" "[J") ∈ lw_all := lw_g (lw_at lw_m0 44 rfl) rfl
theorem q47 : (Jvm.Cond.laysStatic "BENES" "TRANSPOSE_MASKS" "[J") ∈ lw_tbl := lw_at lw_m0 45 rfl
/-! the law's own entry -/
set_option maxRecDepth 100000
abbrev cL_law : ByteArray := code
def dkwL_law_9 : List UInt8 := [182, 0, 35, 159, 0, 5, 3, 172, 132, 3, 6, 167, 255, 53, 4, 172]
abbrev dktL_law_9 : List UInt8 := dkwL_law_9 ++ []
def dkwL_law_8 : List UInt8 := [4, 96, 46, 42, 29, 5, 96, 46, 182, 0, 31, 44, 42, 29, 4, 96, 46, 42, 29, 5, 96, 46]
abbrev dktL_law_8 : List UInt8 := dkwL_law_8 ++ dktL_law_9
def dkwL_law_7 : List UInt8 := [4, 96, 46, 182, 0, 26, 44, 42, 29, 4, 96, 46, 182, 0, 30, 148, 153, 0, 38, 3, 172, 43, 42, 29]
abbrev dktL_law_7 : List UInt8 := dkwL_law_7 ++ dktL_law_8
def dkwL_law_6 : List UInt8 := [29, 6, 96, 46, 182, 0, 21, 167, 0, 71, 43, 182, 0, 22, 44, 182, 0, 25, 167, 0, 60, 43, 42, 29]
abbrev dktL_law_6 : List UInt8 := dkwL_law_6 ++ dktL_law_7
def dkwL_law_5 : List UInt8 := [29, 5, 96, 46, 42, 29, 6, 96, 46, 182, 0, 18, 44, 42, 29, 4, 96, 46, 42, 29, 5, 96, 46, 42]
abbrev dktL_law_5 : List UInt8 := dkwL_law_5 ++ dktL_law_6
def dkwL_law_4 : List UInt8 := [46, 42, 29, 5, 96, 46, 42, 29, 6, 96, 46, 182, 0, 17, 167, 0, 112, 43, 42, 29, 4, 96, 46, 42]
abbrev dktL_law_4 : List UInt8 := dkwL_law_4 ++ dktL_law_5
def dkwL_law_3 : List UInt8 := [43, 42, 29, 4, 96, 46, 42, 29, 5, 96, 46, 42, 29, 6, 96, 46, 182, 0, 13, 44, 42, 29, 4, 96]
abbrev dktL_law_3 : List UInt8 := dkwL_law_3 ++ dktL_law_4
def dkwL_law_2 : List UInt8 := [170, 0, 0, 0, 0, 0, 185, 0, 0, 0, 0, 0, 0, 0, 4, 0, 0, 0, 35, 0, 0, 0, 76, 0, 0, 0, 117, 0, 0, 0, 128, 0, 0, 0, 152]
abbrev dktL_law_2 : List UInt8 := dkwL_law_2 ++ dktL_law_3
def dkwL_law_1 : List UInt8 := [163, 0, 200, 42, 29, 46, 16, 7, 126]
abbrev dktL_law_1 : List UInt8 := dkwL_law_1 ++ dktL_law_2
def dkwL_law_0 : List UInt8 := [187, 0, 7, 89, 183, 0, 9, 76, 187, 0, 10, 89, 183, 0, 12, 77, 3, 62, 29, 42, 190, 16, 6, 100]
abbrev dktL_law_0 : List UInt8 := dkwL_law_0 ++ dktL_law_1
theorem dksL_law_0 : cL_law.data.toList.drop 0 = dktL_law_0 := by decide +kernel
theorem dksL_law_1 : cL_law.data.toList.drop 24 = dktL_law_1 := dk_seg dksL_law_0 24 rfl rfl
theorem dksL_law_2 : cL_law.data.toList.drop 33 = dktL_law_2 := dk_seg dksL_law_1 9 rfl rfl
theorem dksL_law_3 : cL_law.data.toList.drop 68 = dktL_law_3 := dk_seg dksL_law_2 35 rfl rfl
theorem dksL_law_4 : cL_law.data.toList.drop 92 = dktL_law_4 := dk_seg dksL_law_3 24 rfl rfl
theorem dksL_law_5 : cL_law.data.toList.drop 116 = dktL_law_5 := dk_seg dksL_law_4 24 rfl rfl
theorem dksL_law_6 : cL_law.data.toList.drop 140 = dktL_law_6 := dk_seg dksL_law_5 24 rfl rfl
theorem dksL_law_7 : cL_law.data.toList.drop 164 = dktL_law_7 := dk_seg dksL_law_6 24 rfl rfl
theorem dksL_law_8 : cL_law.data.toList.drop 188 = dktL_law_8 := dk_seg dksL_law_7 24 rfl rfl
theorem dksL_law_9 : cL_law.data.toList.drop 210 = dktL_law_9 := dk_seg dksL_law_8 22 rfl rfl
theorem dL_law_0 : decode cL_law 0 = .ok (.new 7, 3) := dk_187 0 7 (dk_at dksL_law_0 0 rfl rfl)
theorem dL_law_3 : decode cL_law 3 = .ok (.dup, 1) := dk_89 (dk_at dksL_law_0 3 rfl rfl)
theorem dL_law_4 : decode cL_law 4 = .ok (.invokespecial 9, 3) := dk_183 0 9 (dk_at dksL_law_0 4 rfl rfl)
theorem dL_law_7 : decode cL_law 7 = .ok (.astore_n 1, 1) := dk_76 (dk_at dksL_law_0 7 rfl rfl)
theorem dL_law_8 : decode cL_law 8 = .ok (.new 10, 3) := dk_187 0 10 (dk_at dksL_law_0 8 rfl rfl)
theorem dL_law_11 : decode cL_law 11 = .ok (.dup, 1) := dk_89 (dk_at dksL_law_0 11 rfl rfl)
theorem dL_law_12 : decode cL_law 12 = .ok (.invokespecial 12, 3) := dk_183 0 12 (dk_at dksL_law_0 12 rfl rfl)
theorem dL_law_15 : decode cL_law 15 = .ok (.astore_n 2, 1) := dk_77 (dk_at dksL_law_0 15 rfl rfl)
theorem dL_law_16 : decode cL_law 16 = .ok (.iconst 0, 1) := dk_3 (dk_at dksL_law_0 16 rfl rfl)
theorem dL_law_17 : decode cL_law 17 = .ok (.istore_n 3, 1) := dk_62 (dk_at dksL_law_0 17 rfl rfl)
theorem dL_law_18 : decode cL_law 18 = .ok (.iload_n 3, 1) := dk_29 (dk_at dksL_law_0 18 rfl rfl)
theorem dL_law_19 : decode cL_law 19 = .ok (.aload_n 0, 1) := dk_42 (dk_at dksL_law_0 19 rfl rfl)
theorem dL_law_20 : decode cL_law 20 = .ok (.arraylength, 1) := dk_190 (dk_at dksL_law_0 20 rfl rfl)
theorem dL_law_21 : decode cL_law 21 = .ok (.bipush 6, 2) := dk_16 6 (dk_at dksL_law_0 21 rfl rfl)
theorem dL_law_23 : decode cL_law 23 = .ok (.isub, 1) := dk_100 (dk_at dksL_law_0 23 rfl rfl)
theorem dL_law_24 : decode cL_law 24 = .ok (.if_icmp .gt 200, 3) := dk_163 0 200 (dk_at dksL_law_1 0 rfl rfl)
theorem dL_law_27 : decode cL_law 27 = .ok (.aload_n 0, 1) := dk_42 (dk_at dksL_law_1 3 rfl rfl)
theorem dL_law_28 : decode cL_law 28 = .ok (.iload_n 3, 1) := dk_29 (dk_at dksL_law_1 4 rfl rfl)
theorem dL_law_29 : decode cL_law 29 = .ok (.iaload, 1) := dk_46 (dk_at dksL_law_1 5 rfl rfl)
theorem dL_law_30 : decode cL_law 30 = .ok (.bipush 7, 2) := dk_16 7 (dk_at dksL_law_1 6 rfl rfl)
theorem dL_law_32 : decode cL_law 32 = .ok (.iand, 1) := dk_126 (dk_at dksL_law_1 8 rfl rfl)
theorem dL_law_33 : decode cL_law 33 = .ok (.tableswitch 185 0 4 #[35, 76, 117, 128, 152], 35) := by decide +kernel
theorem dL_law_68 : decode cL_law 68 = .ok (.aload_n 1, 1) := dk_43 (dk_at dksL_law_3 0 rfl rfl)
theorem dL_law_69 : decode cL_law 69 = .ok (.aload_n 0, 1) := dk_42 (dk_at dksL_law_3 1 rfl rfl)
theorem dL_law_70 : decode cL_law 70 = .ok (.iload_n 3, 1) := dk_29 (dk_at dksL_law_3 2 rfl rfl)
theorem dL_law_71 : decode cL_law 71 = .ok (.iconst 1, 1) := dk_4 (dk_at dksL_law_3 3 rfl rfl)
theorem dL_law_72 : decode cL_law 72 = .ok (.iadd, 1) := dk_96 (dk_at dksL_law_3 4 rfl rfl)
theorem dL_law_73 : decode cL_law 73 = .ok (.iaload, 1) := dk_46 (dk_at dksL_law_3 5 rfl rfl)
theorem dL_law_74 : decode cL_law 74 = .ok (.aload_n 0, 1) := dk_42 (dk_at dksL_law_3 6 rfl rfl)
theorem dL_law_75 : decode cL_law 75 = .ok (.iload_n 3, 1) := dk_29 (dk_at dksL_law_3 7 rfl rfl)
theorem dL_law_76 : decode cL_law 76 = .ok (.iconst 2, 1) := dk_5 (dk_at dksL_law_3 8 rfl rfl)
theorem dL_law_77 : decode cL_law 77 = .ok (.iadd, 1) := dk_96 (dk_at dksL_law_3 9 rfl rfl)
theorem dL_law_78 : decode cL_law 78 = .ok (.iaload, 1) := dk_46 (dk_at dksL_law_3 10 rfl rfl)
theorem dL_law_79 : decode cL_law 79 = .ok (.aload_n 0, 1) := dk_42 (dk_at dksL_law_3 11 rfl rfl)
theorem dL_law_80 : decode cL_law 80 = .ok (.iload_n 3, 1) := dk_29 (dk_at dksL_law_3 12 rfl rfl)
theorem dL_law_81 : decode cL_law 81 = .ok (.iconst 3, 1) := dk_6 (dk_at dksL_law_3 13 rfl rfl)
theorem dL_law_82 : decode cL_law 82 = .ok (.iadd, 1) := dk_96 (dk_at dksL_law_3 14 rfl rfl)
theorem dL_law_83 : decode cL_law 83 = .ok (.iaload, 1) := dk_46 (dk_at dksL_law_3 15 rfl rfl)
theorem dL_law_84 : decode cL_law 84 = .ok (.invokevirtual 13, 3) := dk_182 0 13 (dk_at dksL_law_3 16 rfl rfl)
theorem dL_law_87 : decode cL_law 87 = .ok (.aload_n 2, 1) := dk_44 (dk_at dksL_law_3 19 rfl rfl)
theorem dL_law_88 : decode cL_law 88 = .ok (.aload_n 0, 1) := dk_42 (dk_at dksL_law_3 20 rfl rfl)
theorem dL_law_89 : decode cL_law 89 = .ok (.iload_n 3, 1) := dk_29 (dk_at dksL_law_3 21 rfl rfl)
theorem dL_law_90 : decode cL_law 90 = .ok (.iconst 1, 1) := dk_4 (dk_at dksL_law_3 22 rfl rfl)
theorem dL_law_91 : decode cL_law 91 = .ok (.iadd, 1) := dk_96 (dk_at dksL_law_3 23 rfl rfl)
theorem dL_law_92 : decode cL_law 92 = .ok (.iaload, 1) := dk_46 (dk_at dksL_law_4 0 rfl rfl)
theorem dL_law_93 : decode cL_law 93 = .ok (.aload_n 0, 1) := dk_42 (dk_at dksL_law_4 1 rfl rfl)
theorem dL_law_94 : decode cL_law 94 = .ok (.iload_n 3, 1) := dk_29 (dk_at dksL_law_4 2 rfl rfl)
theorem dL_law_95 : decode cL_law 95 = .ok (.iconst 2, 1) := dk_5 (dk_at dksL_law_4 3 rfl rfl)
theorem dL_law_96 : decode cL_law 96 = .ok (.iadd, 1) := dk_96 (dk_at dksL_law_4 4 rfl rfl)
theorem dL_law_97 : decode cL_law 97 = .ok (.iaload, 1) := dk_46 (dk_at dksL_law_4 5 rfl rfl)
theorem dL_law_98 : decode cL_law 98 = .ok (.aload_n 0, 1) := dk_42 (dk_at dksL_law_4 6 rfl rfl)
theorem dL_law_99 : decode cL_law 99 = .ok (.iload_n 3, 1) := dk_29 (dk_at dksL_law_4 7 rfl rfl)
theorem dL_law_100 : decode cL_law 100 = .ok (.iconst 3, 1) := dk_6 (dk_at dksL_law_4 8 rfl rfl)
theorem dL_law_101 : decode cL_law 101 = .ok (.iadd, 1) := dk_96 (dk_at dksL_law_4 9 rfl rfl)
theorem dL_law_102 : decode cL_law 102 = .ok (.iaload, 1) := dk_46 (dk_at dksL_law_4 10 rfl rfl)
theorem dL_law_103 : decode cL_law 103 = .ok (.invokevirtual 17, 3) := dk_182 0 17 (dk_at dksL_law_4 11 rfl rfl)
theorem dL_law_106 : decode cL_law 106 = .ok (.goto 112, 3) := dk_167 0 112 (dk_at dksL_law_4 14 rfl rfl)
theorem dL_law_109 : decode cL_law 109 = .ok (.aload_n 1, 1) := dk_43 (dk_at dksL_law_4 17 rfl rfl)
theorem dL_law_110 : decode cL_law 110 = .ok (.aload_n 0, 1) := dk_42 (dk_at dksL_law_4 18 rfl rfl)
theorem dL_law_111 : decode cL_law 111 = .ok (.iload_n 3, 1) := dk_29 (dk_at dksL_law_4 19 rfl rfl)
theorem dL_law_112 : decode cL_law 112 = .ok (.iconst 1, 1) := dk_4 (dk_at dksL_law_4 20 rfl rfl)
theorem dL_law_113 : decode cL_law 113 = .ok (.iadd, 1) := dk_96 (dk_at dksL_law_4 21 rfl rfl)
theorem dL_law_114 : decode cL_law 114 = .ok (.iaload, 1) := dk_46 (dk_at dksL_law_4 22 rfl rfl)
theorem dL_law_115 : decode cL_law 115 = .ok (.aload_n 0, 1) := dk_42 (dk_at dksL_law_4 23 rfl rfl)
theorem dL_law_116 : decode cL_law 116 = .ok (.iload_n 3, 1) := dk_29 (dk_at dksL_law_5 0 rfl rfl)
theorem dL_law_117 : decode cL_law 117 = .ok (.iconst 2, 1) := dk_5 (dk_at dksL_law_5 1 rfl rfl)
theorem dL_law_118 : decode cL_law 118 = .ok (.iadd, 1) := dk_96 (dk_at dksL_law_5 2 rfl rfl)
theorem dL_law_119 : decode cL_law 119 = .ok (.iaload, 1) := dk_46 (dk_at dksL_law_5 3 rfl rfl)
theorem dL_law_120 : decode cL_law 120 = .ok (.aload_n 0, 1) := dk_42 (dk_at dksL_law_5 4 rfl rfl)
theorem dL_law_121 : decode cL_law 121 = .ok (.iload_n 3, 1) := dk_29 (dk_at dksL_law_5 5 rfl rfl)
theorem dL_law_122 : decode cL_law 122 = .ok (.iconst 3, 1) := dk_6 (dk_at dksL_law_5 6 rfl rfl)
theorem dL_law_123 : decode cL_law 123 = .ok (.iadd, 1) := dk_96 (dk_at dksL_law_5 7 rfl rfl)
theorem dL_law_124 : decode cL_law 124 = .ok (.iaload, 1) := dk_46 (dk_at dksL_law_5 8 rfl rfl)
theorem dL_law_125 : decode cL_law 125 = .ok (.invokevirtual 18, 3) := dk_182 0 18 (dk_at dksL_law_5 9 rfl rfl)
theorem dL_law_128 : decode cL_law 128 = .ok (.aload_n 2, 1) := dk_44 (dk_at dksL_law_5 12 rfl rfl)
theorem dL_law_129 : decode cL_law 129 = .ok (.aload_n 0, 1) := dk_42 (dk_at dksL_law_5 13 rfl rfl)
theorem dL_law_130 : decode cL_law 130 = .ok (.iload_n 3, 1) := dk_29 (dk_at dksL_law_5 14 rfl rfl)
theorem dL_law_131 : decode cL_law 131 = .ok (.iconst 1, 1) := dk_4 (dk_at dksL_law_5 15 rfl rfl)
theorem dL_law_132 : decode cL_law 132 = .ok (.iadd, 1) := dk_96 (dk_at dksL_law_5 16 rfl rfl)
theorem dL_law_133 : decode cL_law 133 = .ok (.iaload, 1) := dk_46 (dk_at dksL_law_5 17 rfl rfl)
theorem dL_law_134 : decode cL_law 134 = .ok (.aload_n 0, 1) := dk_42 (dk_at dksL_law_5 18 rfl rfl)
theorem dL_law_135 : decode cL_law 135 = .ok (.iload_n 3, 1) := dk_29 (dk_at dksL_law_5 19 rfl rfl)
theorem dL_law_136 : decode cL_law 136 = .ok (.iconst 2, 1) := dk_5 (dk_at dksL_law_5 20 rfl rfl)
theorem dL_law_137 : decode cL_law 137 = .ok (.iadd, 1) := dk_96 (dk_at dksL_law_5 21 rfl rfl)
theorem dL_law_138 : decode cL_law 138 = .ok (.iaload, 1) := dk_46 (dk_at dksL_law_5 22 rfl rfl)
theorem dL_law_139 : decode cL_law 139 = .ok (.aload_n 0, 1) := dk_42 (dk_at dksL_law_5 23 rfl rfl)
theorem dL_law_140 : decode cL_law 140 = .ok (.iload_n 3, 1) := dk_29 (dk_at dksL_law_6 0 rfl rfl)
theorem dL_law_141 : decode cL_law 141 = .ok (.iconst 3, 1) := dk_6 (dk_at dksL_law_6 1 rfl rfl)
theorem dL_law_142 : decode cL_law 142 = .ok (.iadd, 1) := dk_96 (dk_at dksL_law_6 2 rfl rfl)
theorem dL_law_143 : decode cL_law 143 = .ok (.iaload, 1) := dk_46 (dk_at dksL_law_6 3 rfl rfl)
theorem dL_law_144 : decode cL_law 144 = .ok (.invokevirtual 21, 3) := dk_182 0 21 (dk_at dksL_law_6 4 rfl rfl)
theorem dL_law_147 : decode cL_law 147 = .ok (.goto 71, 3) := dk_167 0 71 (dk_at dksL_law_6 7 rfl rfl)
theorem dL_law_150 : decode cL_law 150 = .ok (.aload_n 1, 1) := dk_43 (dk_at dksL_law_6 10 rfl rfl)
theorem dL_law_151 : decode cL_law 151 = .ok (.invokevirtual 22, 3) := dk_182 0 22 (dk_at dksL_law_6 11 rfl rfl)
theorem dL_law_154 : decode cL_law 154 = .ok (.aload_n 2, 1) := dk_44 (dk_at dksL_law_6 14 rfl rfl)
theorem dL_law_155 : decode cL_law 155 = .ok (.invokevirtual 25, 3) := dk_182 0 25 (dk_at dksL_law_6 15 rfl rfl)
theorem dL_law_158 : decode cL_law 158 = .ok (.goto 60, 3) := dk_167 0 60 (dk_at dksL_law_6 18 rfl rfl)
theorem dL_law_161 : decode cL_law 161 = .ok (.aload_n 1, 1) := dk_43 (dk_at dksL_law_6 21 rfl rfl)
theorem dL_law_162 : decode cL_law 162 = .ok (.aload_n 0, 1) := dk_42 (dk_at dksL_law_6 22 rfl rfl)
theorem dL_law_163 : decode cL_law 163 = .ok (.iload_n 3, 1) := dk_29 (dk_at dksL_law_6 23 rfl rfl)
theorem dL_law_164 : decode cL_law 164 = .ok (.iconst 1, 1) := dk_4 (dk_at dksL_law_7 0 rfl rfl)
theorem dL_law_165 : decode cL_law 165 = .ok (.iadd, 1) := dk_96 (dk_at dksL_law_7 1 rfl rfl)
theorem dL_law_166 : decode cL_law 166 = .ok (.iaload, 1) := dk_46 (dk_at dksL_law_7 2 rfl rfl)
theorem dL_law_167 : decode cL_law 167 = .ok (.invokevirtual 26, 3) := dk_182 0 26 (dk_at dksL_law_7 3 rfl rfl)
theorem dL_law_170 : decode cL_law 170 = .ok (.aload_n 2, 1) := dk_44 (dk_at dksL_law_7 6 rfl rfl)
theorem dL_law_171 : decode cL_law 171 = .ok (.aload_n 0, 1) := dk_42 (dk_at dksL_law_7 7 rfl rfl)
theorem dL_law_172 : decode cL_law 172 = .ok (.iload_n 3, 1) := dk_29 (dk_at dksL_law_7 8 rfl rfl)
theorem dL_law_173 : decode cL_law 173 = .ok (.iconst 1, 1) := dk_4 (dk_at dksL_law_7 9 rfl rfl)
theorem dL_law_174 : decode cL_law 174 = .ok (.iadd, 1) := dk_96 (dk_at dksL_law_7 10 rfl rfl)
theorem dL_law_175 : decode cL_law 175 = .ok (.iaload, 1) := dk_46 (dk_at dksL_law_7 11 rfl rfl)
theorem dL_law_176 : decode cL_law 176 = .ok (.invokevirtual 30, 3) := dk_182 0 30 (dk_at dksL_law_7 12 rfl rfl)
theorem dL_law_179 : decode cL_law 179 = .ok (.lcmp, 1) := dk_148 (dk_at dksL_law_7 15 rfl rfl)
theorem dL_law_180 : decode cL_law 180 = .ok (.ifCond .eq 38, 3) := dk_153 0 38 (dk_at dksL_law_7 16 rfl rfl)
theorem dL_law_183 : decode cL_law 183 = .ok (.iconst 0, 1) := dk_3 (dk_at dksL_law_7 19 rfl rfl)
theorem dL_law_184 : decode cL_law 184 = .ok (.ireturn, 1) := dk_172 (dk_at dksL_law_7 20 rfl rfl)
theorem dL_law_185 : decode cL_law 185 = .ok (.aload_n 1, 1) := dk_43 (dk_at dksL_law_7 21 rfl rfl)
theorem dL_law_186 : decode cL_law 186 = .ok (.aload_n 0, 1) := dk_42 (dk_at dksL_law_7 22 rfl rfl)
theorem dL_law_187 : decode cL_law 187 = .ok (.iload_n 3, 1) := dk_29 (dk_at dksL_law_7 23 rfl rfl)
theorem dL_law_188 : decode cL_law 188 = .ok (.iconst 1, 1) := dk_4 (dk_at dksL_law_8 0 rfl rfl)
theorem dL_law_189 : decode cL_law 189 = .ok (.iadd, 1) := dk_96 (dk_at dksL_law_8 1 rfl rfl)
theorem dL_law_190 : decode cL_law 190 = .ok (.iaload, 1) := dk_46 (dk_at dksL_law_8 2 rfl rfl)
theorem dL_law_191 : decode cL_law 191 = .ok (.aload_n 0, 1) := dk_42 (dk_at dksL_law_8 3 rfl rfl)
theorem dL_law_192 : decode cL_law 192 = .ok (.iload_n 3, 1) := dk_29 (dk_at dksL_law_8 4 rfl rfl)
theorem dL_law_193 : decode cL_law 193 = .ok (.iconst 2, 1) := dk_5 (dk_at dksL_law_8 5 rfl rfl)
theorem dL_law_194 : decode cL_law 194 = .ok (.iadd, 1) := dk_96 (dk_at dksL_law_8 6 rfl rfl)
theorem dL_law_195 : decode cL_law 195 = .ok (.iaload, 1) := dk_46 (dk_at dksL_law_8 7 rfl rfl)
theorem dL_law_196 : decode cL_law 196 = .ok (.invokevirtual 31, 3) := dk_182 0 31 (dk_at dksL_law_8 8 rfl rfl)
theorem dL_law_199 : decode cL_law 199 = .ok (.aload_n 2, 1) := dk_44 (dk_at dksL_law_8 11 rfl rfl)
theorem dL_law_200 : decode cL_law 200 = .ok (.aload_n 0, 1) := dk_42 (dk_at dksL_law_8 12 rfl rfl)
theorem dL_law_201 : decode cL_law 201 = .ok (.iload_n 3, 1) := dk_29 (dk_at dksL_law_8 13 rfl rfl)
theorem dL_law_202 : decode cL_law 202 = .ok (.iconst 1, 1) := dk_4 (dk_at dksL_law_8 14 rfl rfl)
theorem dL_law_203 : decode cL_law 203 = .ok (.iadd, 1) := dk_96 (dk_at dksL_law_8 15 rfl rfl)
theorem dL_law_204 : decode cL_law 204 = .ok (.iaload, 1) := dk_46 (dk_at dksL_law_8 16 rfl rfl)
theorem dL_law_205 : decode cL_law 205 = .ok (.aload_n 0, 1) := dk_42 (dk_at dksL_law_8 17 rfl rfl)
theorem dL_law_206 : decode cL_law 206 = .ok (.iload_n 3, 1) := dk_29 (dk_at dksL_law_8 18 rfl rfl)
theorem dL_law_207 : decode cL_law 207 = .ok (.iconst 2, 1) := dk_5 (dk_at dksL_law_8 19 rfl rfl)
theorem dL_law_208 : decode cL_law 208 = .ok (.iadd, 1) := dk_96 (dk_at dksL_law_8 20 rfl rfl)
theorem dL_law_209 : decode cL_law 209 = .ok (.iaload, 1) := dk_46 (dk_at dksL_law_8 21 rfl rfl)
theorem dL_law_210 : decode cL_law 210 = .ok (.invokevirtual 35, 3) := dk_182 0 35 (dk_at dksL_law_9 0 rfl rfl)
theorem dL_law_213 : decode cL_law 213 = .ok (.if_icmp .eq 5, 3) := dk_159 0 5 (dk_at dksL_law_9 3 rfl rfl)
theorem dL_law_216 : decode cL_law 216 = .ok (.iconst 0, 1) := dk_3 (dk_at dksL_law_9 6 rfl rfl)
theorem dL_law_217 : decode cL_law 217 = .ok (.ireturn, 1) := dk_172 (dk_at dksL_law_9 7 rfl rfl)
theorem dL_law_218 : decode cL_law 218 = .ok (.iinc 3 6, 3) := dk_132 3 6 (dk_at dksL_law_9 8 rfl rfl)
theorem dL_law_221 : decode cL_law 221 = .ok (.goto (-203), 3) := dk_167 255 53 (dk_at dksL_law_9 11 rfl rfl)
theorem dL_law_224 : decode cL_law 224 = .ok (.iconst 1, 1) := dk_4 (dk_at dksL_law_9 14 rfl rfl)
theorem dL_law_225 : decode cL_law 225 = .ok (.ireturn, 1) := dk_172 (dk_at dksL_law_9 15 rfl rfl)
theorem q2 : (Jvm.Cond.initialized "BitSquareDeskLaw") ∈ lw_all := lw_g (lw_at lw_m0 0 rfl) rfl
set_option maxRecDepth 100000
theorem q7 : (Jvm.Cond.classLink "BitSquareDeskLaw" (7 : Nat) "BitSquareDesk") ∈ lw_all := lw_g (lw_at lw_m0 5 rfl) rfl
theorem q9 : (Jvm.Cond.methodLink "BitSquareDeskLaw" (9 : Nat) ({ cls := "BitSquareDesk", name := "<init>", desc := "()V" } : Jvm.MethodName)) ∈ lw_all := lw_g (lw_at lw_m0 7 rfl) rfl
theorem q20 : (Jvm.Cond.methodLink "BitSquareDeskLaw" (13 : Nat) ({ cls := "BitSquareDesk", name := "set", desc := "(III)V" } : Jvm.MethodName)) ∈ lw_all := lw_g (lw_at lw_m0 18 rfl) rfl
theorem q28 : (Jvm.Cond.methodLink "BitSquareDeskLaw" (18 : Nat) ({ cls := "BitSquareDesk", name := "spread", desc := "(III)V" } : Jvm.MethodName)) ∈ lw_all := lw_g (lw_at lw_m0 26 rfl) rfl
theorem q33 : (Jvm.Cond.methodLink "BitSquareDeskLaw" (22 : Nat) ({ cls := "BitSquareDesk", name := "turn", desc := "()V" } : Jvm.MethodName)) ∈ lw_all := lw_g (lw_at lw_m0 31 rfl) rfl
theorem q48 : (Jvm.Cond.methodLink "BitSquareDeskLaw" (26 : Nat) ({ cls := "BitSquareDesk", name := "get", desc := "(I)J" } : Jvm.MethodName)) ∈ lw_all := lw_g (lw_at lw_m0 46 rfl) rfl
theorem q52 : (Jvm.Cond.methodLink "BitSquareDeskLaw" (31 : Nat) ({ cls := "BitSquareDesk", name := "bit", desc := "(II)Z" } : Jvm.MethodName)) ∈ lw_all := lw_g (lw_at lw_m0 50 rfl) rfl
theorem q56 : (Jvm.Cond.classLink "BitSquareDeskLaw" (10 : Nat) "BitSquareDeskModel") ∈ lw_all := lw_g (lw_at lw_m0 54 rfl) rfl
theorem q58 : (Jvm.Cond.methodLink "BitSquareDeskLaw" (12 : Nat) ({ cls := "BitSquareDeskModel", name := "<init>", desc := "()V" } : Jvm.MethodName)) ∈ lw_all := lw_g (lw_at lw_m0 56 rfl) rfl
theorem q72 : (Jvm.Cond.methodLink "BitSquareDeskLaw" (17 : Nat) ({ cls := "BitSquareDeskModel", name := "set", desc := "(III)V" } : Jvm.MethodName)) ∈ lw_all := lw_g (lw_at lw_m0 70 rfl) rfl
theorem q85 : (Jvm.Cond.methodLink "BitSquareDeskLaw" (21 : Nat) ({ cls := "BitSquareDeskModel", name := "spread", desc := "(III)V" } : Jvm.MethodName)) ∈ lw_all := lw_g (lw_at lw_m0 83 rfl) rfl
theorem q90 : (Jvm.Cond.methodLink "BitSquareDeskLaw" (25 : Nat) ({ cls := "BitSquareDeskModel", name := "turn", desc := "()V" } : Jvm.MethodName)) ∈ lw_all := lw_g (lw_at lw_m0 88 rfl) rfl
theorem q94 : (Jvm.Cond.methodLink "BitSquareDeskLaw" (30 : Nat) ({ cls := "BitSquareDeskModel", name := "get", desc := "(I)J" } : Jvm.MethodName)) ∈ lw_all := lw_g (lw_at lw_m0 92 rfl) rfl
theorem q103 : (Jvm.Cond.methodLink "BitSquareDeskLaw" (35 : Nat) ({ cls := "BitSquareDeskModel", name := "bit", desc := "(II)Z" } : Jvm.MethodName)) ∈ lw_all := lw_g (lw_at lw_m0 101 rfl) rfl
theorem q6 : (Jvm.Cond.initialized "java/lang/System") ∈ lw_all := lw_g (lw_at lw_m0 4 rfl) rfl
set_option maxRecDepth 100000
theorem q44 : (Jvm.Cond.static ({ cls := "java/lang/System", name := "arraycopy", desc := "(Ljava/lang/Object;ILjava/lang/Object;II)V" } : Jvm.MethodName)) ∈ lw_all := lw_g (lw_at lw_m0 42 rfl) rfl
theorem q45 : (Jvm.Cond.native ({ cls := "java/lang/System", name := "arraycopy", desc := "(Ljava/lang/Object;ILjava/lang/Object;II)V" } : Jvm.MethodName)) ∈ lw_all := lw_g (lw_at lw_m0 43 rfl) rfl
theorem q19 : (Jvm.Cond.arrayClass Jvm.ClassFile.FieldType.long) ∈ lw_all := lw_g (lw_at lw_m0 17 rfl) rfl
set_option maxRecDepth 100000
theorem q63 : (Jvm.Cond.arrayOver (Jvm.ClassFile.FieldType.array Jvm.ClassFile.FieldType.boolean)) ∈ lw_tbl := lw_at lw_m0 61 rfl
theorem q71 : (Jvm.Cond.arrayClass Jvm.ClassFile.FieldType.boolean) ∈ lw_all := lw_g (lw_at lw_m0 69 rfl) rfl
end
section
/-! ROWS OF OURS over the kit: numbers as nI; contracts' worlds; a call on one half of a world; multianewarray of two dimensions; the table of masks -/
theorem nI_mul (a b : Nat) : nI a * nI b = nI (a * b) := (Int32.ofNat_mul a b).symm
theorem nI_subL {a b : Nat} (h : b ≤ a) : nI a - nI b = nI (a - b) := by
  have e : nI a = nI (a - b) + nI b := by rw [nI_add, Nat.sub_add_cancel h]
  rw [e, Int32.add_sub_cancel]
abbrev vwCl : List vw_C := [(RX0, TX0, 1), (RX1, TX1, 2)]
abbrev mwG : Type := (Nat → ClassId) × (Nat → Nat → Nat)
abbrev mwTy : Type := List (ClassId × FieldType)
/-- a contract's start: this world, these array classes -/
def mwC (D : mwG) (ws : va_W) (tys : mwTy) (sz : Nat) (U : State) : Prop := U.heap.size = sz ∧ va_P D vwCl ws U.heap ∧ va_K D vwCl tys U ∧ va_D (fun _ => True) ws
/-- a contract's end -/
def mwE (D : mwG) (A : Nat → Prop) (ws : va_W) (tys : mwTy) (t : State) : Prop := va_P D vwCl ws t.heap ∧ va_K D vwCl tys t ∧ va_D A ws
theorem mwC.calling {D : mwG} {ws : va_W} {tys : mwTy} {sz : Nat} {U : State} (q : mwC D ws tys sz U) (g : JFrame) (mk : MethodId) (a : Array Value) : mwC D ws tys sz (U.calling g mk a) :=
  ⟨q.1, q.2.1, va_K.moved (u := U) (U := U.calling g mk a) (Vm.Alike.refl U.vm) q.2.2.1, q.2.2.2⟩
theorem mwC.give {D : mwG} {A : Nat → Prop} {ws : va_W} {tys : mwTy} {H : Heap} {s U : State} (hP : va_P D vwCl ws H) (hK : va_K D vwCl tys s) (hD : va_D A ws) (hU : U.heap = H) (hW : s.WarmedH U.vm) : mwC D ws tys H.size U :=
  ⟨by rw [hU], by rw [hU]; exact hP, va_K.moved hW.alike hK, hD.weaken (fun _ _ _ _ => trivial)⟩
theorem mwE.give {D : mwG} {A : Nat → Prop} {ws : va_W} {tys : mwTy} {H : Heap} {s t : State} (hP : va_P D vwCl ws H) (hK : va_K D vwCl tys s) (hD : va_D A ws) (ht : t.heap = H) (hW : s.WarmedH t.vm) : mwE D A ws tys t :=
  ⟨by rw [ht]; exact hP, va_K.moved hW.alike hK, hD⟩
/-! one half of a world -/
theorem mwL {D : mwG} {cl : List vw_C} {a b : va_W} {H : Heap} (h : va_P D cl (a ++ b) H) : va_P D cl a H := fun k q hk => h k q (by rw [List.getElem?_append_left (List.getElem?_eq_some_iff.mp hk).1]; exact hk)
theorem mwR {D : mwG} {cl : List vw_C} {a b : va_W} {H : Heap} (h : va_P D cl (a ++ b) H) : va_P D cl b H := fun k q hk => h (a.length + k) q (by rw [List.getElem?_append_right (by omega), Nat.add_sub_cancel_left]; exact hk)
theorem mwDL {A : Nat → Prop} {a b : va_W} (h : va_D A (a ++ b)) : va_D A a := by
  have key : ∀ (k : Nat) (q : Nat × va_E), a[k]? = some q → (a ++ b)[k]? = some q := fun k q hk => by rw [List.getElem?_append_left (List.getElem?_eq_some_iff.mp hk).1]; exact hk
  exact ⟨fun i j x y hi hj e => h.1 i j x y (key i x hi) (key j y hj) e, fun k q hk => h.2 k q (key k q hk)⟩
theorem mwDR {A : Nat → Prop} {a b : va_W} (h : va_D A (a ++ b)) : va_D A b := by
  have key : ∀ (k : Nat) (q : Nat × va_E), b[k]? = some q → (a ++ b)[a.length + k]? = some q := fun k q hk => by rw [List.getElem?_append_right (by omega), Nat.add_sub_cancel_left]; exact hk
  refine ⟨fun i j x y hi hj e => ?_, fun k q hk => h.2 _ q (key k q hk)⟩
  have := h.1 _ _ x y (key i x hi) (key j y hj) e
  omega
theorem mwX {A : Nat → Prop} {a b : va_W} (h : va_D A (a ++ b)) (i j : Nat) (x y : Nat × va_E) (hi : a[i]? = some x) (hj : b[j]? = some y) : x.1 ≠ y.1 := by
  intro e
  have l := (List.getElem?_eq_some_iff.mp hi).1
  have := h.1 i (a.length + j) x y (by rw [List.getElem?_append_left l]; exact hi) (by rw [List.getElem?_append_right (by omega), Nat.add_sub_cancel_left]; exact hj) e
  omega
theorem mwFree {A0 : Nat → Prop} {a : va_W} {H0 H : Heap} {locs : List Loc} (hD : va_D A0 a) (hS : va_S A0 H0 H locs) (hA : ∀ q, H0.size ≤ q → A0 q) : ∀ q, va_A a H.size q → A0 q := by
  intro q h
  rcases h with ⟨k, e, h⟩ | h
  · exact hD.2 k (q, e) h
  · exact hA q (Nat.le_trans hS.1 h)
theorem mwKeep {D : mwG} {cl : List vw_C} {a b : va_W} {H H1 : Heap} (hP : va_P D cl b H) (hx : ∀ (i j : Nat) (x y : Nat × va_E), a[i]? = some x → b[j]? = some y → x.1 ≠ y.1) (hk : ∀ q : Nat, q < H.size → ¬ va_A a H.size q → H1[q]? = H[q]?) : va_P D cl b H1 ∧ ∀ (k : Nat) (q : Nat × va_E), b[k]? = some q → ¬ va_A a H.size q.1 := by
  have key : ∀ (k : Nat) (q : Nat × va_E), b[k]? = some q → ¬ va_A a H.size q.1 := by
    intro k q hq h
    rcases h with ⟨i, e, h⟩ | h
    · exact hx i k _ q h hq rfl
    · have := (hP k q hq).lt
      omega
  exact ⟨hP.kept (fun k q hq => hk q.1 (hP k q hq).lt (key k q hq)), key⟩
/-- behind a call on the left half -/
theorem mwJoinL {A0 : Nat → Prop} {D : mwG} {cl : List vw_C} {a b a1 : va_W} {H H1 : Heap} (hP : va_P D cl (a ++ b) H) (hD : va_D A0 (a ++ b)) (hk : ∀ q : Nat, q < H.size → ¬ va_A a H.size q → H1[q]? = H[q]?) (hF : ∀ q, va_A a H.size q → A0 q) (hP1 : va_P D cl a1 H1) (hD1 : va_D (va_A a H.size) a1) : va_P D cl (a1 ++ b) H1 ∧ va_D A0 (a1 ++ b) := by
  obtain ⟨h1, h2⟩ := mwKeep (mwR hP) (mwX hD) hk
  refine ⟨va_P.app hP1 h1, va_D.app (hD1.weaken (fun k q _ h => hF q.1 h)) (mwDR hD) (fun i j x y hx hy e => ?_)⟩
  exact h2 j y hy (by rw [← e]; exact hD1.2 i x hx)
/-- behind a call on the right half -/
theorem mwJoinR {A0 : Nat → Prop} {D : mwG} {cl : List vw_C} {a b b1 : va_W} {H H1 : Heap} (hP : va_P D cl (a ++ b) H) (hD : va_D A0 (a ++ b)) (hk : ∀ q : Nat, q < H.size → ¬ va_A b H.size q → H1[q]? = H[q]?) (hF : ∀ q, va_A b H.size q → A0 q) (hP1 : va_P D cl b1 H1) (hD1 : va_D (va_A b H.size) b1) : va_P D cl (a ++ b1) H1 ∧ va_D A0 (a ++ b1) := by
  obtain ⟨h1, h2⟩ := mwKeep (mwL hP) (fun i j x y hi hj e => mwX hD j i y x hj hi e.symm) hk
  refine ⟨va_P.app h1 hP1, va_D.app (mwDL hD) (hD1.weaken (fun k q _ h => hF q.1 h)) (fun i j x y hx hy e => ?_)⟩
  exact h2 i x hx (by rw [e]; exact hD1.2 j y hy)
/-- behind a call that had no cells -/
theorem mwKeep0 {D : mwG} {cl : List vw_C} {b : va_W} {H H1 : Heap} (hP : va_P D cl b H) (hk : ∀ q : Nat, q < H.size → ¬ va_A [] H.size q → H1[q]? = H[q]?) : va_P D cl b H1 := (mwKeep (a := []) hP (fun i j x y hi => by simp at hi) hk).1
/-! the table of masks: a static that nobody writes -/
def mkL : Nat → Int64 := fun d => match d with
  | 0 => 6148914691236517205
  | 1 => 3689348814741910323
  | 2 => 1085102592571150095
  | 3 => 71777214294589695
  | 4 => 281470681808895
  | _ => 4294967295
def mkV : Nat → Value := fun d => .long (mkL d)
def mwT (A : Nat → Prop) (t : Nat) (U : State) : Prop := va_Z "BENES" "TRANSPOSE_MASKS" "[J" (.ref t) A U U.heap ∧ va_T .long t 6 mkV A U U.heap
theorem mwT.calling {A : Nat → Prop} {t : Nat} {U : State} (q : mwT A t U) (g : JFrame) (mk : MethodId) (a : Array Value) : mwT A t (U.calling g mk a) :=
  ⟨va_Z.moved (u := U) (U := U.calling g mk a) (Vm.Alike.refl U.vm) q.1, va_T.moved (u := U) (U := U.calling g mk a) (Vm.Alike.refl U.vm) q.2⟩
theorem mwT.give {A B : Nat → Prop} {t : Nat} {s U : State} {H : Heap} {locs : List Loc} (h : mwT A t s) (hS : va_S A s.heap H locs) (hf : ∀ q, B q → A q) (hU : U.heap = H) (hW : s.WarmedH U.vm) : mwT B t U := by
  have h1 := va_Z.moved hW.alike ((h.1.kept (H1 := H) (fun a h1 h2 => hS.2.1 a h1 h2)).narrow hf)
  have h2 := va_T.moved hW.alike ((h.2.kept (H1 := H) (fun a h1 h2 => hS.2.1 a h1 h2)).narrow hf)
  exact ⟨by rw [hU]; exact h1, by rw [hU]; exact h2⟩
section MW
variable {p : Program} {l : Launch} {e : Env} {R : Room} {s : State} {m : MethodId} {args : Array Value} {below : List Frame} {meth : Method} {c : Code} {H : Heap} {locs : List Loc} {cells slots : Nat} {Q : State → Prop}
variable {cc : ByteArray} {pc : Nat} {ls : Array Slot} {rest : List Value} {D : va_G} {cl : List vw_C} {A : Nat → Prop} {tys : List (ClassId × FieldType)} {ws : va_W} {H0 : Heap}
theorem wm_iadd (hx : p.tables.exec = Jvm.exec) (hb : c.code = cc) {a b : Nat} (hdg : decode cc pc = .ok (.iadd, 1)) (k : W p l e R s m args below meth c H locs cells slots Q (F0 m (pc + 1) ls (.int (nI (a + b)) :: rest))) : W p l e R s m args below meth c H locs cells slots Q (F0 m pc ls (.int (nI b) :: .int (nI a) :: rest)) := by
  refine lv_iadd hx hb hdg ?_
  rw [nI_add]
  exact k
theorem wm_imul (hx : p.tables.exec = Jvm.exec) (hb : c.code = cc) {a b : Nat} (hdg : decode cc pc = .ok (.imul, 1)) (k : W p l e R s m args below meth c H locs cells slots Q (F0 m (pc + 1) ls (.int (nI (a * b)) :: rest))) : W p l e R s m args below meth c H locs cells slots Q (F0 m pc ls (.int (nI b) :: .int (nI a) :: rest)) := by
  refine lv_imul hx hb hdg ?_
  rw [nI_mul]
  exact k
theorem wm_icge (hx : p.tables.exec = Jvm.exec) (hb : c.code = cc) {a b : Nat} (ha : a < 2 ^ 31) (hb2 : b < 2 ^ 31) {off : Int} {tgt : Nat} (hdg : decode cc pc = .ok (.if_icmp .ge off, 3)) (ht : (pc : Int) + off = (tgt : Int))
    (kt : b ≤ a → W p l e R s m args below meth c H locs cells slots Q (F0 m tgt ls rest)) (kf : a < b → W p l e R s m args below meth c H locs cells slots Q (F0 m (pc + 3) ls rest)) : W p l e R s m args below meth c H locs cells slots Q (F0 m pc ls (.int (nI b) :: .int (nI a) :: rest)) :=
  lv_icmp_ge hx hb hdg ht (fun h => kt ((nI_leI hb2 ha).mp h)) (fun h => kf (Nat.lt_of_not_le (fun z => h ((nI_leI hb2 ha).mpr z))))
theorem wm_lald (hx : p.tables.exec = Jvm.exec) (hb : c.code = cc) (hK : va_K D cl tys s) (hP : va_P D cl ws H) (q0 t0 : Nat) {a : Nat} {cA : ClassId} {n : Nat} {f : Nat → Int64} (ha : ws[q0]? = some (a, .inl (cA, n, .inr (.inl f)))) (ht : tys[t0]? = some (cA, .long)) {i : Nat} (hi : i < n) (hn : n < 2 ^ 31) (hdg : decode cc pc = .ok (.laload, 1))
    (kk : W p l e R s m args below meth c H locs cells slots Q (F0 m (pc + 1) ls (.long (f i) :: rest))) : W p l e R s m args below meth c H locs cells slots Q (F0 m pc ls (.int (nI i) :: .ref a :: rest)) := by
  refine va_lald hx hb hK hP q0 t0 ha ht (vp_in_nI hi hn) hdg ?_
  rw [nI_clamp (by omega)]
  exact kk
theorem wm_last (hx : p.tables.exec = Jvm.exec) (hb : c.code = cc) (hK : va_K D cl tys s) (hP : va_P D cl ws H) (hD : va_D A ws) (hS : va_S A H0 H locs) (q0 t0 : Nat) {a : Nat} {cA : ClassId} {n : Nat} {f : Nat → Int64} (ha : ws[q0]? = some (a, .inl (cA, n, .inr (.inl f)))) (ht : tys[t0]? = some (cA, .long)) {i : Nat} {x : Int64} (hi : i < n) (hn : n < 2 ^ 31) (hdg : decode cc pc = .ok (.lastore, 1))
    (kk : ∀ (g : Nat → Int64) (H1 : Heap) (locs1 : List Loc), g = vp_updL f i x → va_P D cl (ws.set q0 (a, .inl (cA, n, .inr (.inl g)))) H1 → va_D A (ws.set q0 (a, .inl (cA, n, .inr (.inl g)))) → va_S A H0 H1 locs1 → W p l e R s m args below meth c H1 locs1 cells slots Q (F0 m (pc + 1) ls rest)) : W p l e R s m args below meth c H locs cells slots Q (F0 m pc ls (.long x :: .int (nI i) :: .ref a :: rest)) := by
  refine va_last hx hb hK hP hD hS q0 t0 ha ht (vp_in_nI hi hn) hdg (fun H1 locs1 hP1 hD1 hS1 => ?_)
  rw [nI_clamp (by omega)] at hP1 hD1
  exact kk _ H1 locs1 rfl hP1 hD1 hS1
theorem wm_alda (hx : p.tables.exec = Jvm.exec) (hb : c.code = cc) (hK : va_K D cl tys s) (hP : va_P D cl ws H) (q0 t0 : Nat) {a : Nat} {cA : ClassId} {n : Nat} {f : Nat → Option Nat} {ty : FieldType} (ha : ws[q0]? = some (a, .inl (cA, n, .inr (.inr (.inr (.inr f)))))) (ht : tys[t0]? = some (cA, .array ty)) {i : Nat} (hi : i < n) (hn : n < 2 ^ 31) {v : Value} (hv : va_rf (f i) = v) (hdg : decode cc pc = .ok (.aaload, 1))
    (kk : W p l e R s m args below meth c H locs cells slots Q (F0 m (pc + 1) ls (v :: rest))) : W p l e R s m args below meth c H locs cells slots Q (F0 m pc ls (.int (nI i) :: .ref a :: rest)) := by
  exact W.aald (v := v) (ty := .array ty) hx hb (hP q0 _ ha) ((hK.2 t0 _ ht).1 n (fun j => va_rf (f j))) rfl (fun q => by cases q) (by show ¬ (_ ∨ (arrV _ _ _).slots.size ≤ _); rw [arrV_size]; exact vp_in_nI hi hn) (by show (arrV _ _ _).slots[_]? = _; rw [nI_clamp (by omega), arrV_read _ _ hi, hv]) rfl rfl hdg kk
theorem outer_arrV (cA : ClassId) (n h0 : Nat) : ∀ i, Jvm.Free.Multi.outerC cA n h0 i = arrV cA n (fun j => if j < i then .ref (h0 + 1 + j) else .null)
  | 0 => by
    show ({ cls := cA, slots := Array.replicate n .null, vm := .none } : Cell) = _
    rw [arrV_new]
    congr 1
  | i + 1 => by
    show (Jvm.Free.Multi.outerC cA n h0 i).setSlot i (.ref (h0 + 1 + i)) = _
    rw [outer_arrV cA n h0 i, arrV_store]
    congr 1
    funext j
    by_cases h : j = i
    · subst h
      simp [updV]
    · by_cases h2 : j < i
      · have h3 : j < i + 1 := by omega
        simp [updV, h, h2, h3]
      · have h3 : ¬ j < i + 1 := by omega
        simp [updV, h, h2, h3]
theorem wm_multi (hx : p.tables.exec = Jvm.exec) (hb : c.code = cc) {own : String} {index : Nat} {ty : FieldType} (hown : s.vm.findClass own = some m.cls) (hclink : (Cond.classLink own index ("[" ++ (FieldType.array ty).toString)).before args s = true) (hover : (Cond.arrayOver (.array ty)).before args s = true) (harr : (Cond.arrayClass ty).before args s = true)
    {n k : Nat} (hn : n * 4 ≤ 536870912) (hk : k * componentBytes ty ≤ 536870912) (hk3 : k ≤ 536870912) (hdf : fits ty (defaultValue ty) = true) (hdd : (defaultValue ty).isDefault = true) (hcells : cells + (1 + n) ≤ R.cells) (hslots : slots + (n + n * k) ≤ R.slots) (hdg : decode cc pc = .ok (.multianewarray index 2, 4))
    (kk : ∀ (cA comp : ClassId) (H1 : Heap), ArrOfT s cA (.array ty) → s.vm.findClass ("[" ++ (FieldType.array ty).toString) = some cA → ArrOfT s comp ty → s.vm.findClass (FieldType.array ty).toString = some comp → H1.size = H.size + 1 + n → (∀ q, q < H.size → H1[q]? = H[q]?) → H1[H.size]? = some (arrV cA n (fun j => if j < n then .ref (H.size + 1 + j) else .null)) → (∀ j, j < n → H1[H.size + 1 + j]? = some (arrV comp k (fun _ => defaultValue ty))) →
      W p l e R s m args below meth c H1 locs (cells + 1 + n) (slots + n + n * k) Q (F0 m (pc + 4) ls (.ref H.size :: rest))) : W p l e R s m args below meth c H locs cells slots Q (F0 m pc ls (.int (nI k) :: .int (nI n) :: rest)) := by
  intro T hT X
  subst hT; subst hb
  have hn31 : n < 2 ^ 31 := by omega
  have hk31 : k < 2 ^ 31 := by omega
  have e1 : (nI n).toNatClampNeg = n := nI_clamp hn31
  have e2 : (nI k).toNatClampNeg = k := nI_clamp hk31
  obtain ⟨vm₁, cA, comp, hW1, hfA, hfC, hO, hI, X1, step⟩ := X.multianewarray2F hx hown hclink hover harr (g := F0 m pc ls (.int (nI k) :: .int (nI n) :: rest)) rfl hdg (n := nI n) (k := nI k) (rest := rest) rfl (nI_pos hn31) (nI_pos hk31) (by rw [e1]; exact hn) (by rw [e2]; exact hk) (by rw [e2]; exact hk3) hdf hdd (by rw [e1]; exact hcells) (by rw [e1, e2]; exact hslots)
  rw [e1, e2] at X1 step
  obtain ⟨f1, f2, f3, f4⟩ := Jvm.Free.Multi.fill_facts (T.setVm vm₁) cA comp n k (defaultValue ty) n
  obtain ⟨⟨-, kA, hkA, cp, hkk⟩, -⟩ := hO 0 0 0
  obtain ⟨⟨-, kB, hkB, cp2, hkk2⟩, -⟩ := hI 0 (defaultValue ty)
  obtain ⟨t, a1, b1⟩ := kk cA comp (Jvm.Free.Multi.fill (T.setVm vm₁) cA comp n k (defaultValue ty) n).heap (fun N z => ⟨fun x h => (by cases h), kA, hkA, cp, hkk⟩) hfA (fun N z => ⟨fun x h => (by cases h), kB, hkB, cp2, hkk2⟩) hfC f1
    (fun q hq => Jvm.Free.Multi.fill_old (T.setVm vm₁) cA comp n k (defaultValue ty) (a := q) hq n) (by rw [← outer_arrV]; exact f2) (fun j hj => by rw [← arrV_new]; exact Jvm.Free.Multi.fill_inner (T.setVm vm₁) cA comp n k (defaultValue ty) n j hj) _ rfl X1
  exact ⟨t, step t a1, b1⟩
end MW
end
section
/-! PURE LAWS: bits of a long; one level of the masked swap; its six levels are the transposition; the two ways to make a row of two ints; a row by its bits -/
def lb (x : Int64) (b : Nat) : Bool := x.toBitVec.getLsbD b
theorem lb_ext {x y : Int64} (h : ∀ b, b < 64 → lb x b = lb y b) : x = y := Int64.toBitVec_inj.mp (BitVec.eq_of_getLsbD_eq (fun i hi => h i hi))
theorem lb_and (x y : Int64) (b : Nat) : lb (x &&& y) b = (lb x b && lb y b) := by unfold lb; rw [Int64.toBitVec_and, BitVec.getLsbD_and]
theorem lb_or (x y : Int64) (b : Nat) : lb (x ||| y) b = (lb x b || lb y b) := by unfold lb; rw [Int64.toBitVec_or, BitVec.getLsbD_or]
theorem lb_xor (x y : Int64) (b : Nat) : lb (x ^^^ y) b = (lb x b ^^ lb y b) := by unfold lb; rw [Int64.toBitVec_xor, BitVec.getLsbD_xor]
/-- the machine's shifts of a long by n -/
def jU (x : Int64) (n : Nat) : Int64 := (x.toUInt64 >>> ((nI n).toInt64.toUInt64 &&& Int64.toUInt64 63)).toInt64
def jL (x : Int64) (n : Nat) : Int64 := x <<< ((nI n).toInt64 &&& 63)
def jR (x : Int64) (n : Nat) : Int64 := x >>> ((nI n).toInt64 &&& 63)
theorem sL_l : ∀ n, n < 64 → (((nI n).toInt64 &&& 63).toBitVec.smod 64).toNat = n := by decide +kernel
theorem sL_u : ∀ n, n < 64 → (((nI n).toInt64.toUInt64 &&& Int64.toUInt64 63).toBitVec % 64).toNat = n := by decide +kernel
theorem jL_bv (n : Nat) (hn : n < 64) (x : Int64) : (jL x n).toBitVec = x.toBitVec <<< n := by
  unfold jL
  rw [Int64.toBitVec_shiftLeft]
  show x.toBitVec <<< (((nI n).toInt64 &&& 63).toBitVec.smod 64).toNat = _
  rw [sL_l n hn]
theorem lb_jL (n : Nat) (hn : n < 64) (x : Int64) {b : Nat} (hb : b < 64) : lb (jL x n) b = (decide (n ≤ b) && lb x (b - n)) := by
  unfold lb
  rw [jL_bv n hn, BitVec.getLsbD_shiftLeft]
  rcases Nat.lt_or_ge b n with h | h
  · simp [h, Nat.not_le.mpr h]
  · simp [hb, h, Nat.not_lt.mpr h]
theorem lb_jU (n : Nat) (hn : n < 64) (x : Int64) (b : Nat) : lb (jU x n) b = lb x (n + b) := by
  show (x.toUInt64 >>> ((nI n).toInt64.toUInt64 &&& Int64.toUInt64 63)).toBitVec.getLsbD b = x.toUInt64.toBitVec.getLsbD (n + b)
  rw [UInt64.toBitVec_shiftRight]
  show (x.toUInt64.toBitVec >>> (((nI n).toInt64.toUInt64 &&& Int64.toUInt64 63).toBitVec % 64).toNat).getLsbD b = _
  rw [sL_u n hn, BitVec.getLsbD_ushiftRight]
theorem lb_jR0 (n : Nat) (hn : n < 64) (x : Int64) : lb (jR x n) 0 = lb x n := by
  unfold lb jR
  rw [Int64.toBitVec_shiftRight]
  show (x.toBitVec.sshiftRight (((nI n).toInt64 &&& 63).toBitVec.smod 64).toNat).getLsbD 0 = _
  rw [sL_l n hn, BitVec.getLsbD_sshiftRight]
  simp [hn]
theorem lb_1 : ∀ b, b < 64 → lb 1 b = decide (b = 0) := by decide +kernel
theorem lb_0 : ∀ b, b < 64 → lb 0 b = false := by decide +kernel
/-- x & 1 == 1 -/
theorem lb_odd (x : Int64) : (x &&& 1 = 1) ↔ lb x 0 = true := by
  constructor
  · intro h
    have e : lb (x &&& 1) 0 = lb 1 0 := by rw [h]
    rw [lb_and, lb_1 0 (by omega)] at e
    simpa using e
  · intro h
    refine lb_ext (fun b hb => ?_)
    rw [lb_and, lb_1 b hb]
    by_cases h0 : b = 0
    · subst h0
      simp [h]
    · simp [h0]
/-! one level -/
theorem tp_f1 : ∀ d, d < 6 → ∀ k, k < 64 → k.testBit d = false → k + 2 ^ d < 64 ∧ k ^^^ 2 ^ d = k + 2 ^ d ∧ (k + 2 ^ d).testBit d = true ∧ (k + 2 ^ d) ^^^ 2 ^ d = k := by decide +kernel
theorem tp_f2 : ∀ d, d < 6 → ∀ b, b < 64 → b.testBit d = true → 2 ^ d ≤ b ∧ b ^^^ 2 ^ d = b - 2 ^ d ∧ (b - 2 ^ d).testBit d = false := by decide +kernel
theorem tp_f3 : ∀ d, d < 6 → ∀ b, b < 64 → b.testBit d = false → 2 ^ d ≤ b → (b - 2 ^ d).testBit d = true := by decide +kernel
theorem tp_f4 : ∀ d, d < 6 → 2 ^ d < 64 := by decide +kernel
theorem tp_mask : ∀ d, d < 6 → ∀ b, b < 64 → lb (mkL d) b = !b.testBit d := by decide +kernel
def jT (m : Int64) (s : Nat) (lo hi : Int64) : Int64 := (jU lo s ^^^ hi) &&& m
def jLo (m : Int64) (s : Nat) (lo hi : Int64) : Int64 := lo ^^^ jL (jT m s lo hi) s
def jHi (m : Int64) (s : Nat) (lo hi : Int64) : Int64 := hi ^^^ jT m s lo hi
theorem lb_jT {d b : Nat} (hd : d < 6) (hb : b < 64) (lo hi : Int64) : lb (jT (mkL d) (2 ^ d) lo hi) b = ((lb lo (2 ^ d + b) ^^ lb hi b) && !b.testBit d) := by
  unfold jT
  rw [lb_and, lb_xor, lb_jU _ (tp_f4 d hd), tp_mask d hd b hb]
theorem lb_jLo {d b : Nat} (hd : d < 6) (hb : b < 64) (lo hi : Int64) : lb (jLo (mkL d) (2 ^ d) lo hi) b = if b.testBit d = true then lb hi (b - 2 ^ d) else lb lo b := by
  unfold jLo
  rw [lb_xor, lb_jL _ (tp_f4 d hd) _ hb]
  cases h : b.testBit d with
  | true =>
    obtain ⟨h1, -, h3⟩ := tp_f2 d hd b hb h
    rw [lb_jT hd (Nat.lt_of_le_of_lt (Nat.sub_le _ _) hb), h3, Nat.add_sub_cancel' h1, decide_eq_true h1]
    cases lb lo b <;> cases lb hi (b - 2 ^ d) <;> rfl
  | false =>
    by_cases h1 : 2 ^ d ≤ b
    · rw [lb_jT hd (Nat.lt_of_le_of_lt (Nat.sub_le _ _) hb), tp_f3 d hd b hb h h1]
      simp
    · simp [h1]
theorem lb_jHi {d b : Nat} (hd : d < 6) (hb : b < 64) (lo hi : Int64) : lb (jHi (mkL d) (2 ^ d) lo hi) b = if b.testBit d = true then lb hi b else lb lo (b + 2 ^ d) := by
  unfold jHi
  rw [lb_xor, lb_jT hd hb, Nat.add_comm b]
  cases h : b.testBit d <;> cases lb hi b <;> cases lb lo (2 ^ d + b) <;> rfl
/-- a level, on the whole matrix -/
def tM (d : Nat) (V : Nat → Nat → Bool) : Nat → Nat → Bool := fun i j => if i.testBit d = j.testBit d then V i j else V (i ^^^ 2 ^ d) (j ^^^ 2 ^ d)
theorem tp_lo {d k : Nat} (hd : d < 6) (hk : k < 64) (hkb : k.testBit d = false) {V : Nat → Nat → Bool} {lo hi : Int64} (h1 : ∀ b, b < 64 → lb lo b = V k b) (h2 : ∀ b, b < 64 → lb hi b = V (k + 2 ^ d) b) {b : Nat} (hb : b < 64) : lb (jLo (mkL d) (2 ^ d) lo hi) b = tM d V k b := by
  obtain ⟨-, g2, -, -⟩ := tp_f1 d hd k hk hkb
  rw [lb_jLo hd hb]
  unfold tM
  rw [hkb]
  cases h : b.testBit d with
  | true =>
    obtain ⟨-, f2, -⟩ := tp_f2 d hd b hb h
    rw [if_pos rfl, if_neg (by decide), g2, f2]
    exact h2 _ (Nat.lt_of_le_of_lt (Nat.sub_le _ _) hb)
  | false =>
    rw [if_neg (by decide), if_pos rfl]
    exact h1 b hb
theorem tp_hi {d k : Nat} (hd : d < 6) (hk : k < 64) (hkb : k.testBit d = false) {V : Nat → Nat → Bool} {lo hi : Int64} (h1 : ∀ b, b < 64 → lb lo b = V k b) (h2 : ∀ b, b < 64 → lb hi b = V (k + 2 ^ d) b) {b : Nat} (hb : b < 64) : lb (jHi (mkL d) (2 ^ d) lo hi) b = tM d V (k + 2 ^ d) b := by
  obtain ⟨-, -, g3, g4⟩ := tp_f1 d hd k hk hkb
  rw [lb_jHi hd hb]
  unfold tM
  rw [g3]
  cases h : b.testBit d with
  | true =>
    rw [if_pos rfl, if_pos rfl]
    exact h2 b hb
  | false =>
    obtain ⟨f1, f2, -, -⟩ := tp_f1 d hd b hb h
    rw [if_neg (by decide), if_neg (by decide), g4, f2]
    exact h1 _ f1
/-- the base of a row at level d; the rows whose base is less than j are done -/
def tB (d r : Nat) : Nat := if r.testBit d = true then r - 2 ^ d else r
def tI (d j : Nat) (V : Nat → Nat → Bool) (h : Nat → Int64) : Prop := ∀ r, r < 64 → ∀ b, b < 64 → lb (h r) b = if tB d r < j then tM d V r b else V r b
theorem tB_le (d r : Nat) : tB d r ≤ r := by
  unfold tB
  split
  · exact Nat.sub_le _ _
  · exact Nat.le_refl _
theorem tB_lo {d k : Nat} (hkb : k.testBit d = false) : tB d k = k := by
  unfold tB
  rw [hkb]
  rfl
theorem tB_hi {d k : Nat} (hd : d < 6) (hk : k < 64) (hkb : k.testBit d = false) : tB d (k + 2 ^ d) = k := by
  unfold tB
  rw [(tp_f1 d hd k hk hkb).2.2.1, if_pos rfl]
  omega
theorem tB_of {d r k : Nat} (hd : d < 6) (hr : r < 64) (h : tB d r = k) : r = k ∨ r = k + 2 ^ d := by
  unfold tB at h
  split at h
  · rename_i hb
    have := (tp_f2 d hd r hr hb).1
    omega
  · omega
theorem tI_at {d j k : Nat} {V : Nat → Nat → Bool} {h : Nat → Int64} (hI : tI d j V h) {r : Nat} (hr : r < 64) (hk : tB d r = k) (hjk : j ≤ k) {b : Nat} (hb : b < 64) : lb (h r) b = V r b := by
  rw [hI r hr b hb, if_neg (by omega)]
theorem tp_start {d : Nat} {V : Nat → Nat → Bool} {h : Nat → Int64} (hV : ∀ r, r < 64 → ∀ b, b < 64 → lb (h r) b = V r b) : tI d 0 V h := by
  intro r hr b hb
  rw [if_neg (by omega)]
  exact hV r hr b hb
theorem tp_end {d : Nat} {V : Nat → Nat → Bool} {h : Nat → Int64} (hI : tI d 64 V h) : ∀ r, r < 64 → ∀ b, b < 64 → lb (h r) b = tM d V r b := by
  intro r hr b hb
  have := tB_le d r
  rw [hI r hr b hb, if_pos (by omega)]
theorem tp_f5 : ∀ d, d < 6 → ∀ i, i < 64 → i % (2 * 2 ^ d) = 0 → i + 2 * 2 ^ d ≤ 64 ∧ (i + 2 * 2 ^ d) % (2 * 2 ^ d) = 0 ∧ ∀ r, r < 64 → (tB d r < i + 2 * 2 ^ d ↔ tB d r < i + 2 ^ d) := by decide +kernel
theorem tp_skip {d i : Nat} (hd : d < 6) (hi : i < 64) (hi2 : i % (2 * 2 ^ d) = 0) {V : Nat → Nat → Bool} {h : Nat → Int64} (hI : tI d (i + 2 ^ d) V h) : tI d (i + 2 * 2 ^ d) V h := by
  intro r hr b hb
  rw [hI r hr b hb]
  have e := (tp_f5 d hd i hi hi2).2.2 r hr
  by_cases h1 : tB d r < i + 2 ^ d
  · rw [if_pos h1, if_pos (e.mpr h1)]
  · rw [if_neg h1, if_neg (fun z => h1 (e.mp z))]
theorem tp_f6a : ∀ d, d < 6 → ∀ i, i < 64 → i % (2 * 2 ^ d) = 0 → ∀ q, q < 2 ^ d → (i + q).testBit d = false := by decide +kernel
theorem tp_f6 (d : Nat) (hd : d < 6) (i : Nat) (hi : i < 64) (him : i % (2 * 2 ^ d) = 0) (j : Nat) (h1 : i ≤ j) (h2 : j < i + 2 ^ d) : j.testBit d = false := by
  have h := tp_f6a d hd i hi him (j - i) (by omega)
  rw [Nat.add_sub_cancel' h1] at h
  exact h
theorem tp_f7 : ∀ d, d < 6 → 2 ≤ d → ∀ i, i < 64 → i % (2 * 2 ^ d) = 0 → i % 4 = 0 ∧ (i + 2 ^ d) % 4 = 0 := by decide +kernel
theorem tp_f8a : ∀ d, d < 6 → ∀ j, j < 64 → (decide (2 ≤ d) && decide (j % 4 = 0) && !j.testBit d) = true → ∀ q, q < 4 → (decide (j + q < 64) && !(j + q).testBit d) = true := by decide +kernel
theorem tp_f8 (d : Nat) (hd : d < 6) (hd2 : 2 ≤ d) (j : Nat) (hj : j < 64) (hj4 : j % 4 = 0) (hjb : j.testBit d = false) (q : Nat) (hq : q < 4) : j + q < 64 ∧ (j + q).testBit d = false ∧ j + q + 2 ^ d < 64 := by
  have h := tp_f8a d hd j hj (by rw [decide_eq_true hd2, decide_eq_true hj4, hjb]; rfl) q hq
  simp only [Bool.and_eq_true, decide_eq_true_eq, Bool.not_eq_true'] at h
  exact ⟨h.1, h.2, (tp_f1 d hd (j + q) h.1 h.2).1⟩
theorem tp_one {d j : Nat} (hd : d < 6) (hj : j < 64) (hjb : j.testBit d = false) {V : Nat → Nat → Bool} {h g1 g2 : Nat → Int64} (hI : tI d j V h)
    (e1 : g1 = vp_updL h (j + 0) (jLo (mkL d) (2 ^ d) (h (j + 0)) (h (j + 2 ^ d)))) (e2 : g2 = vp_updL g1 (j + 2 ^ d) (jHi (mkL d) (2 ^ d) (h (j + 0)) (h (j + 2 ^ d)))) : tI d (j + 1) V g2 := by
  obtain ⟨f1, -, -, -⟩ := tp_f1 d hd j hj hjb
  have a1 : ∀ b, b < 64 → lb (h (j + 0)) b = V j b := fun b hb => tI_at hI hj (tB_lo hjb) (Nat.le_refl _) hb
  have a2 : ∀ b, b < 64 → lb (h (j + 2 ^ d)) b = V (j + 2 ^ d) b := fun b hb => tI_at hI f1 (tB_hi hd hj hjb) (Nat.le_refl _) hb
  intro r hr b hb
  subst e2 e1
  unfold vp_updL
  by_cases c1 : r = j + 2 ^ d
  · subst c1
    rw [if_pos rfl, tB_hi hd hj hjb, if_pos (by omega)]
    exact tp_hi hd hj hjb a1 a2 hb
  · rw [if_neg c1]
    by_cases c2 : r = j + 0
    · rw [if_pos c2, show r = j from c2, tB_lo hjb, if_pos (by omega)]
      exact tp_lo hd hj hjb a1 a2 hb
    · rw [if_neg c2, hI r hr b hb]
      have hne : tB d r ≠ j := fun z => by rcases tB_of hd hr z with z | z <;> omega
      by_cases h1 : tB d r < j
      · rw [if_pos h1, if_pos (by omega)]
      · rw [if_neg h1, if_neg (by omega)]
theorem tp_four {d j : Nat} (hd : d < 6) (hd2 : 2 ≤ d) (hj : j < 64) (hj4 : j % 4 = 0) (hjb : j.testBit d = false) {V : Nat → Nat → Bool} {h g1 g2 g3 g4 g5 g6 g7 g8 : Nat → Int64} (hI : tI d j V h)
    (e1 : g1 = vp_updL h (j + 0) (jLo (mkL d) (2 ^ d) (h (j + 0)) (h (j + 2 ^ d + 0))))
    (e2 : g2 = vp_updL g1 (j + 1) (jLo (mkL d) (2 ^ d) (h (j + 1)) (h (j + 2 ^ d + 1))))
    (e3 : g3 = vp_updL g2 (j + 2) (jLo (mkL d) (2 ^ d) (h (j + 2)) (h (j + 2 ^ d + 2))))
    (e4 : g4 = vp_updL g3 (j + 3) (jLo (mkL d) (2 ^ d) (h (j + 3)) (h (j + 2 ^ d + 3))))
    (e5 : g5 = vp_updL g4 (j + 2 ^ d + 0) (jHi (mkL d) (2 ^ d) (h (j + 0)) (h (j + 2 ^ d + 0))))
    (e6 : g6 = vp_updL g5 (j + 2 ^ d + 1) (jHi (mkL d) (2 ^ d) (h (j + 1)) (h (j + 2 ^ d + 1))))
    (e7 : g7 = vp_updL g6 (j + 2 ^ d + 2) (jHi (mkL d) (2 ^ d) (h (j + 2)) (h (j + 2 ^ d + 2))))
    (e8 : g8 = vp_updL g7 (j + 2 ^ d + 3) (jHi (mkL d) (2 ^ d) (h (j + 3)) (h (j + 2 ^ d + 3)))) : tI d (j + 4) V g8 := by
  have sw : ∀ q, j + 2 ^ d + q = j + q + 2 ^ d := fun q => by omega
  have a1 : ∀ q, q < 4 → ∀ b, b < 64 → lb (h (j + q)) b = V (j + q) b := fun q hq b hb => by
    obtain ⟨f1, f2, f3⟩ := tp_f8 d hd hd2 j hj hj4 hjb q hq
    exact tI_at hI f1 (tB_lo f2) (by omega) hb
  have a2 : ∀ q, q < 4 → ∀ b, b < 64 → lb (h (j + 2 ^ d + q)) b = V (j + q + 2 ^ d) b := fun q hq b hb => by
    obtain ⟨f1, f2, f3⟩ := tp_f8 d hd hd2 j hj hj4 hjb q hq
    rw [sw q]
    exact tI_at hI f3 (tB_hi hd f1 f2) (by omega) hb
  have lo : ∀ q, q < 4 → ∀ r, r = j + q → ∀ b, b < 64 → lb (jLo (mkL d) (2 ^ d) (h (j + q)) (h (j + 2 ^ d + q))) b = if tB d r < j + 4 then tM d V r b else V r b := fun q hq r hr b hb => by
    obtain ⟨f1, f2, f3⟩ := tp_f8 d hd hd2 j hj hj4 hjb q hq
    rw [hr, tB_lo f2, if_pos (by omega)]
    exact tp_lo hd f1 f2 (a1 q hq) (a2 q hq) hb
  have hi : ∀ q, q < 4 → ∀ r, r = j + 2 ^ d + q → ∀ b, b < 64 → lb (jHi (mkL d) (2 ^ d) (h (j + q)) (h (j + 2 ^ d + q))) b = if tB d r < j + 4 then tM d V r b else V r b := fun q hq r hr b hb => by
    obtain ⟨f1, f2, f3⟩ := tp_f8 d hd hd2 j hj hj4 hjb q hq
    rw [hr, sw q, tB_hi hd f1 f2, if_pos (by omega), ← sw q]
    have := tp_hi hd f1 f2 (a1 q hq) (a2 q hq) hb
    rw [← sw q] at this
    exact this
  intro r hr b hb
  subst e8 e7 e6 e5 e4 e3 e2 e1
  unfold vp_updL
  by_cases c8 : r = j + 2 ^ d + 3
  · rw [if_pos c8]
    exact hi 3 (by omega) r c8 b hb
  rw [if_neg c8]
  by_cases c7 : r = j + 2 ^ d + 2
  · rw [if_pos c7]
    exact hi 2 (by omega) r c7 b hb
  rw [if_neg c7]
  by_cases c6 : r = j + 2 ^ d + 1
  · rw [if_pos c6]
    exact hi 1 (by omega) r c6 b hb
  rw [if_neg c6]
  by_cases c5 : r = j + 2 ^ d + 0
  · rw [if_pos c5]
    exact hi 0 (by omega) r c5 b hb
  rw [if_neg c5]
  by_cases c4 : r = j + 3
  · rw [if_pos c4]
    exact lo 3 (by omega) r c4 b hb
  rw [if_neg c4]
  by_cases c3 : r = j + 2
  · rw [if_pos c3]
    exact lo 2 (by omega) r c3 b hb
  rw [if_neg c3]
  by_cases c2 : r = j + 1
  · rw [if_pos c2]
    exact lo 1 (by omega) r c2 b hb
  rw [if_neg c2]
  by_cases c1 : r = j + 0
  · rw [if_pos c1]
    exact lo 0 (by omega) r c1 b hb
  rw [if_neg c1, hI r hr b hb]
  have hne : ∀ q, q < 4 → tB d r ≠ j + q := fun q hq z => by
    rcases tB_of hd hr z with z | z
    · rcases (show q = 0 ∨ q = 1 ∨ q = 2 ∨ q = 3 by omega) with e | e | e | e <;> subst e <;> omega
    · rcases (show q = 0 ∨ q = 1 ∨ q = 2 ∨ q = 3 by omega) with e | e | e | e <;> subst e <;> omega
  have n0 := hne 0 (by omega)
  have n1 := hne 1 (by omega)
  have n2 := hne 2 (by omega)
  have n3 := hne 3 (by omega)
  by_cases h1 : tB d r < j
  · rw [if_pos h1, if_pos (by omega)]
  · rw [if_neg h1, if_neg (by omega)]
/-! six levels -/
def tS (d : Nat) (p : Nat × Nat) : Nat × Nat := if p.1.testBit d = p.2.testBit d then p else (p.1 ^^^ 2 ^ d, p.2 ^^^ 2 ^ d)
theorem tM_S (d : Nat) (V : Nat → Nat → Bool) (p : Nat × Nat) : tM d V p.1 p.2 = V (tS d p).1 (tS d p).2 := by
  unfold tM tS
  by_cases h : p.1.testBit d = p.2.testBit d
  · simp only [if_pos h]
  · simp only [if_neg h]
theorem tS_1 (d : Nat) (p : Nat × Nat) (e : Nat) : (tS d p).1.testBit e = if e = d then p.2.testBit d else p.1.testBit e := by
  unfold tS
  by_cases h : p.1.testBit d = p.2.testBit d
  · rw [if_pos h]
    by_cases he : e = d
    · subst he
      rw [if_pos rfl, h]
    · rw [if_neg he]
  · rw [if_neg h]
    show (p.1 ^^^ 2 ^ d).testBit e = _
    rw [Nat.testBit_xor, Nat.testBit_two_pow]
    by_cases he : e = d
    · subst he
      rw [if_pos rfl]
      revert h
      cases p.1.testBit e <;> cases p.2.testBit e <;> simp
    · rw [if_neg he, show decide (d = e) = false from decide_eq_false (fun z => he z.symm)]
      simp
theorem tS_2 (d : Nat) (p : Nat × Nat) (e : Nat) : (tS d p).2.testBit e = if e = d then p.1.testBit d else p.2.testBit e := by
  unfold tS
  by_cases h : p.1.testBit d = p.2.testBit d
  · rw [if_pos h]
    by_cases he : e = d
    · subst he
      rw [if_pos rfl, h]
    · rw [if_neg he]
  · rw [if_neg h]
    show (p.2 ^^^ 2 ^ d).testBit e = _
    rw [Nat.testBit_xor, Nat.testBit_two_pow]
    by_cases he : e = d
    · subst he
      rw [if_pos rfl]
      revert h
      cases p.1.testBit e <;> cases p.2.testBit e <;> simp
    · rw [if_neg he, show decide (d = e) = false from decide_eq_false (fun z => he z.symm)]
      simp
theorem tS_all {r b : Nat} (hr : r < 64) (hb : b < 64) : tS 5 (tS 4 (tS 3 (tS 2 (tS 1 (tS 0 (r, b)))))) = (b, r) := by
  have big : ∀ {x e : Nat}, x < 64 → 6 ≤ e → x.testBit e = false := fun {x e} hx he => Nat.testBit_lt_two_pow (Nat.lt_of_lt_of_le hx (Nat.pow_le_pow_right (n := 2) (by omega) he : 2 ^ 6 ≤ 2 ^ e))
  apply Prod.ext
  · apply Nat.eq_of_testBit_eq
    intro e
    simp only [tS_1, tS_2]
    rcases (show e = 0 ∨ e = 1 ∨ e = 2 ∨ e = 3 ∨ e = 4 ∨ e = 5 ∨ 6 ≤ e by omega) with h | h | h | h | h | h | h
    · subst h; rfl
    · subst h; rfl
    · subst h; rfl
    · subst h; rfl
    · subst h; rfl
    · subst h; rfl
    · rw [if_neg (by omega), if_neg (by omega), if_neg (by omega), if_neg (by omega), if_neg (by omega), if_neg (by omega), big hr h, big hb h]
  · apply Nat.eq_of_testBit_eq
    intro e
    simp only [tS_1, tS_2]
    rcases (show e = 0 ∨ e = 1 ∨ e = 2 ∨ e = 3 ∨ e = 4 ∨ e = 5 ∨ 6 ≤ e by omega) with h | h | h | h | h | h | h
    · subst h; rfl
    · subst h; rfl
    · subst h; rfl
    · subst h; rfl
    · subst h; rfl
    · subst h; rfl
    · rw [if_neg (by omega), if_neg (by omega), if_neg (by omega), if_neg (by omega), if_neg (by omega), if_neg (by omega), big hr h, big hb h]
/-- the levels d+1 .. 5 done -/
def tV (V : Nat → Nat → Bool) : Nat → Nat → Nat → Bool := fun d => match d with
  | 0 => tM 1 (tM 2 (tM 3 (tM 4 (tM 5 V))))
  | 1 => tM 2 (tM 3 (tM 4 (tM 5 V)))
  | 2 => tM 3 (tM 4 (tM 5 V))
  | 3 => tM 4 (tM 5 V)
  | 4 => tM 5 V
  | _ => V
theorem tV_next {V : Nat → Nat → Bool} {d : Nat} (hd : d < 5) : tV V d = tM (d + 1) (tV V (d + 1)) := by
  rcases (show d = 0 ∨ d = 1 ∨ d = 2 ∨ d = 3 ∨ d = 4 by omega) with h | h | h | h | h <;> subst h <;> rfl
theorem tV_all (V : Nat → Nat → Bool) {r b : Nat} (hr : r < 64) (hb : b < 64) : tM 0 (tV V 0) r b = V b r := by
  show tM 0 (tM 1 (tM 2 (tM 3 (tM 4 (tM 5 V))))) r b = V b r
  have h := tS_all hr hb
  rw [show tM 0 (tM 1 (tM 2 (tM 3 (tM 4 (tM 5 V))))) r b = _ from tM_S 0 _ (r, b), tM_S, tM_S, tM_S, tM_S, tM_S, h]
/-! a row of two ints -/
def ofV (hi lo : Int32) : Int64 := jL hi.toInt64 32 ||| (lo.toInt64 &&& 4294967295)
def whV (hi lo : Int32) : Int64 := 4294967296 * hi.toInt64 + (lo.toInt64 &&& 4294967295)
theorem bv_disj {x y : BitVec 64} (h : ∀ i, i < 64 → (x.getLsbD i && y.getLsbD i) = false) : x + y = x ||| y := by
  apply BitVec.add_eq_or_of_and_eq_zero
  apply BitVec.eq_of_getLsbD_eq
  intro i hi
  rw [BitVec.getLsbD_and, h i hi, BitVec.getLsbD_zero]
theorem lb_m32 : ∀ b, b < 64 → lb 4294967295 b = decide (b < 32) := by decide +kernel
theorem wh_of (hi lo : Int32) : whV hi lo = ofV hi lo := by
  apply Int64.toBitVec_inj.mp
  unfold whV ofV
  rw [Int64.toBitVec_add, Int64.toBitVec_mul, Int64.toBitVec_or, jL_bv 32 (by omega)]
  have e : (4294967296 : Int64).toBitVec * hi.toInt64.toBitVec = hi.toInt64.toBitVec <<< 32 := by
    rw [show (4294967296 : Int64).toBitVec = BitVec.twoPow 64 32 by decide +kernel, BitVec.twoPow_mul_eq_shiftLeft]
  rw [e]
  apply bv_disj
  intro i hi2
  rw [BitVec.getLsbD_shiftLeft]
  have h2 : (lo.toInt64 &&& 4294967295).toBitVec.getLsbD i = (lb lo.toInt64 i && decide (i < 32)) := by
    have := lb_and lo.toInt64 4294967295 i
    rw [lb_m32 i hi2] at this
    exact this
  rw [h2]
  by_cases h : i < 32 <;> simp [h]
/-- the rows that spread lays -/
def spV (v st : Int64) : Nat → Int64
  | 0 => v
  | k + 1 => spV v st k * 6364136223846793005 + st
theorem spV_comm (v st : Int64) (k : Nat) : (6364136223846793005 : Int64) * spV v st k + st = spV v st (k + 1) := by
  rw [Int64.mul_comm]
  rfl
/-- a row by its bits: doubled, and one more -/
def blL (v : Bool) : Int64 := if v then 1 else 0
theorem lb_blL : ∀ (v : Bool) (b : Nat), b < 64 → lb (blL v) b = (v && decide (b = 0)) := by
  intro v b hb
  cases v
  · show lb 0 b = _
    rw [lb_0 b hb]
    rfl
  · show lb 1 b = _
    rw [lb_1 b hb]
    simp
theorem lb_dbl (x : Int64) (v : Bool) {b : Nat} (hb : b < 64) : lb (2 * x + blL v) b = if b = 0 then v else lb x (b - 1) := by
  have e : (2 * x + blL v).toBitVec = x.toBitVec <<< 1 ||| (blL v).toBitVec := by
    rw [Int64.toBitVec_add, Int64.toBitVec_mul, show (2 : Int64).toBitVec = BitVec.twoPow 64 1 by decide +kernel, BitVec.twoPow_mul_eq_shiftLeft]
    apply bv_disj
    intro i hi
    have h2 : (blL v).toBitVec.getLsbD i = (v && decide (i = 0)) := lb_blL v i hi
    rw [h2, BitVec.getLsbD_shiftLeft]
    by_cases h : i = 0
    · subst h; simp
    · simp [h]
  have h2 : (blL v).toBitVec.getLsbD b = (v && decide (b = 0)) := lb_blL v b hb
  show (2 * x + blL v).toBitVec.getLsbD b = _
  rw [e, BitVec.getLsbD_or, h2, BitVec.getLsbD_shiftLeft]
  unfold lb
  by_cases h : b = 0
  · subst h; simp
  · have h1 : ¬ b < 1 := by omega
    simp [h, h1, hb]
def bI (b : Bool) : Int32 := if b then 1 else 0
theorem bI_nar (b : Bool) : vp_nar .boolean (bI b) = bI b := by cases b <;> rfl
theorem bI_inj {a b : Bool} (h : bI a = bI b) : a = b := by
  revert h
  cases a <;> cases b <;> decide
theorem bI_0 (b : Bool) : bI b = 0 ↔ b = false := by cases b <;> decide
/-- an index of 0 .. 63 out of an int -/
def ix (i : Int32) : Nat := i.toBitVec.toNat % 64
theorem ix_lt (i : Int32) : ix i < 64 := Nat.mod_lt _ (by omega)
theorem ix_and (i : Int32) : i &&& 63 = nI (ix i) := pk_and i 6 (by decide +kernel)
/-- the model's matrix: as it lies, or turned -/
def isv (t : Bool) (M : Nat → Nat → Bool) (i j : Nat) : Bool := if t then M j i else M i j
theorem law_in {L i : Nat} (hL : L ≤ 288) (hi : i ≤ 300) (h : ¬ nI L - nI 6 < nI i) : i + 6 ≤ L := by
  rw [Int32.lt_iff_toInt_lt, Int32.toInt_sub, nI_toInt (n := L) (by omega), nI_toInt (n := 6) (by omega), nI_toInt (n := i) (by omega), Int.bmod_eq_of_le (by omega) (by omega)] at h
  omega
end
section
/-! BENES: the transposition. World: the array written (at z) and the array read (at r); the masks are a static table. A level d: pairs of rows by blocks. *4: the loop that takes four pairs at a time (d = 5 .. 2), *1: one pair (d = 1, 0) -/
abbrev bw (z r : Nat) (cL cR : ClassId) (h f : Nat → Int64) : va_W := [(z, .inl (cL, 64, .inr (.inl h))), (r, .inl (cR, 64, .inr (.inl f)))]
abbrev beM (z d : Nat) : List (Nat × Value) := [(3, .int (nI d)), (0, .ref z), (2, .int (nI 0))]
abbrev beK (z d sh : Nat) : List (Nat × Value) := [(6, .int (nI sh)), (4, .long (mkL d)), (3, .int (nI d)), (0, .ref z), (2, .int (nI 0))]
abbrev beL (z d sh i : Nat) : List (Nat × Value) := [(7, .int (nI i)), (6, .int (nI sh)), (4, .long (mkL d)), (3, .int (nI d)), (0, .ref z), (2, .int (nI 0))]
theorem nI_dec (n : Nat) : nI (n + 1) + Int32.ofInt (-1) = nI n := by
  rw [nI_succ, Int32.add_assoc, show (1 : Int32) + Int32.ofInt (-1) = 0 by decide, Int32.add_zero]
theorem nI_inc (n k : Nat) (z : Int) (h : Int32.ofInt z = nI k) : nI n + Int32.ofInt z = nI (n + k) := by rw [h, nI_add]
theorem be_pow : ∀ d, d < 6 → (nI 1) <<< (nI d &&& 31) = nI (2 ^ d) := by decide +kernel

set_option maxHeartbeats 4000000 in
set_option maxRecDepth 100000 in
theorem be_j4 {p : Program} {l : Launch} {e : Env} {R : Room} {s : State} {m : MethodId} {args : Array Value} {below : List Frame} {meth : Method} {c : Code} {Q : State → Prop} {D : mwG} {A : Nat → Prop} {cells slots : Nat} {z r : Nat} {cL cR : ClassId} {f : Nat → Int64} (hx : p.tables.exec = Jvm.exec) (hb : c.code = cX2_transpose_64x64_2) (hK : va_K D vwCl [(cL, .long), (cR, .long)] s)
    {d sh i : Nat} (hd : d < 6) (hd2 : 2 ≤ d) (hs : 2 ^ d = sh) (hi : i < 64) (him : i % (2 * 2 ^ d) = 0) {V : Nat → Nat → Bool}
    (kend : ∀ (h : Nat → Int64) (H : Heap) (locs : List Loc) (ls : Array Slot), tI d (i + sh) V h → va_P D vwCl (bw z r cL cR h f) H → va_D A (bw z r cL cR h f) → va_S A s.heap H locs → lv_has ls 33 (beL z d sh i) → W p l e R s m args below meth c H locs cells slots Q (F0 m 295 ls [])) :
    ∀ (n j : Nat), i ≤ j → j ≤ i + sh → j % 4 = 0 → i + sh < j + n → ∀ (h : Nat → Int64) (H : Heap) (locs : List Loc) (ls : Array Slot), tI d j V h → va_P D vwCl (bw z r cL cR h f) H → va_D A (bw z r cL cR h f) → va_S A s.heap H locs → lv_has ls 33 ((8, .int (nI j)) :: beL z d sh i) → W p l e R s m args below meth c H locs cells slots Q (F0 m 39 ls []) := by
  intro n
  induction n with
  | zero =>
    intro j h1 h2 h3 h4
    omega
  | succ n ih =>
    intro j hij hj hj4 hn h H locs ls hI hP hD hS hl
    have hblk := tp_f5 d hd i hi him
    refine lv_iload hx hb dX2_transpose_64x64_2_39 (lv_at hl 0 rfl) ?_
    refine lv_iload hx hb dX2_transpose_64x64_2_41 (lv_at hl 1 rfl) ?_
    refine lv_iload hx hb dX2_transpose_64x64_2_43 (lv_at hl 2 rfl) ?_
    refine wm_iadd hx hb dX2_transpose_64x64_2_45 ?_
    refine wm_icge (tgt := 295) hx hb (by omega) (by omega) dX2_transpose_64x64_2_46 (by decide) (fun hc => ?_) (fun hc => ?_)
    · have ej : j = i + sh := by omega
      subst ej
      exact kend h H locs ls hI hP hD hS (lv_sub hl [1, 2, 3, 4, 5, 6] rfl)
    · have hjb : j.testBit d = false := tp_f6 d hd i hi him j hij (by rw [hs]; exact hc)
      have h44 := (tp_f7 d hd hd2 i hi him).2
      have hB := (tp_f8 d hd hd2 j (by omega) hj4 hjb 3 (by omega)).2.2
      rw [hs] at h44 hB
      refine lv_aload_n hx hb dX2_transpose_64x64_2_49 rfl (lv_at hl 5 rfl) ?_
      refine lv_iload hx hb dX2_transpose_64x64_2_50 (lv_at hl 0 rfl) ?_
      refine lv_iconst (v := nI 0) hx hb dX2_transpose_64x64_2_52 (by decide) ?_
      refine wm_iadd hx hb dX2_transpose_64x64_2_53 ?_
      refine wm_lald hx hb hK hP 0 0 rfl rfl (by omega) (Nat.le_of_ble_eq_true rfl) dX2_transpose_64x64_2_54 ?_
      refine lv_lstore (lv' := [(9, .long (h (j + 0))), (8, .int (nI (j))), (7, .int (nI (i))), (6, .int (nI (sh))), (4, .long (mkL d)), (3, .int (nI (d))), (0, .ref z), (2, .int (nI (0)))]) hx hb dX2_transpose_64x64_2_55 hl (by decide) rfl (fun ls hl => ?_)
      refine lv_aload_n hx hb dX2_transpose_64x64_2_57 rfl (lv_at hl 6 rfl) ?_
      refine lv_iload hx hb dX2_transpose_64x64_2_58 (lv_at hl 1 rfl) ?_
      refine lv_iconst (v := nI 1) hx hb dX2_transpose_64x64_2_60 (by decide) ?_
      refine wm_iadd hx hb dX2_transpose_64x64_2_61 ?_
      refine wm_lald hx hb hK hP 0 0 rfl rfl (by omega) (Nat.le_of_ble_eq_true rfl) dX2_transpose_64x64_2_62 ?_
      refine lv_lstore (lv' := [(11, .long (h (j + 1))), (9, .long (h (j + 0))), (8, .int (nI (j))), (7, .int (nI (i))), (6, .int (nI (sh))), (4, .long (mkL d)), (3, .int (nI (d))), (0, .ref z), (2, .int (nI (0)))]) hx hb dX2_transpose_64x64_2_63 hl (by decide) rfl (fun ls hl => ?_)
      refine lv_aload_n hx hb dX2_transpose_64x64_2_65 rfl (lv_at hl 7 rfl) ?_
      refine lv_iload hx hb dX2_transpose_64x64_2_66 (lv_at hl 2 rfl) ?_
      refine lv_iconst (v := nI 2) hx hb dX2_transpose_64x64_2_68 (by decide) ?_
      refine wm_iadd hx hb dX2_transpose_64x64_2_69 ?_
      refine wm_lald hx hb hK hP 0 0 rfl rfl (by omega) (Nat.le_of_ble_eq_true rfl) dX2_transpose_64x64_2_70 ?_
      refine lv_lstore (lv' := [(13, .long (h (j + 2))), (11, .long (h (j + 1))), (9, .long (h (j + 0))), (8, .int (nI (j))), (7, .int (nI (i))), (6, .int (nI (sh))), (4, .long (mkL d)), (3, .int (nI (d))), (0, .ref z), (2, .int (nI (0)))]) hx hb dX2_transpose_64x64_2_71 hl (by decide) rfl (fun ls hl => ?_)
      refine lv_aload_n hx hb dX2_transpose_64x64_2_73 rfl (lv_at hl 8 rfl) ?_
      refine lv_iload hx hb dX2_transpose_64x64_2_74 (lv_at hl 3 rfl) ?_
      refine lv_iconst (v := nI 3) hx hb dX2_transpose_64x64_2_76 (by decide) ?_
      refine wm_iadd hx hb dX2_transpose_64x64_2_77 ?_
      refine wm_lald hx hb hK hP 0 0 rfl rfl (by omega) (Nat.le_of_ble_eq_true rfl) dX2_transpose_64x64_2_78 ?_
      refine lv_lstore (lv' := [(15, .long (h (j + 3))), (13, .long (h (j + 2))), (11, .long (h (j + 1))), (9, .long (h (j + 0))), (8, .int (nI (j))), (7, .int (nI (i))), (6, .int (nI (sh))), (4, .long (mkL d)), (3, .int (nI (d))), (0, .ref z), (2, .int (nI (0)))]) hx hb dX2_transpose_64x64_2_79 hl (by decide) rfl (fun ls hl => ?_)
      refine lv_aload_n hx hb dX2_transpose_64x64_2_81 rfl (lv_at hl 9 rfl) ?_
      refine lv_iload hx hb dX2_transpose_64x64_2_82 (lv_at hl 4 rfl) ?_
      refine lv_iload hx hb dX2_transpose_64x64_2_84 (lv_at hl 6 rfl) ?_
      refine wm_iadd hx hb dX2_transpose_64x64_2_86 ?_
      refine lv_iconst (v := nI 0) hx hb dX2_transpose_64x64_2_87 (by decide) ?_
      refine wm_iadd hx hb dX2_transpose_64x64_2_88 ?_
      refine wm_lald hx hb hK hP 0 0 rfl rfl (by omega) (Nat.le_of_ble_eq_true rfl) dX2_transpose_64x64_2_89 ?_
      refine lv_lstore (lv' := [(17, .long (h (j + sh + 0))), (15, .long (h (j + 3))), (13, .long (h (j + 2))), (11, .long (h (j + 1))), (9, .long (h (j + 0))), (8, .int (nI (j))), (7, .int (nI (i))), (6, .int (nI (sh))), (4, .long (mkL d)), (3, .int (nI (d))), (0, .ref z), (2, .int (nI (0)))]) hx hb dX2_transpose_64x64_2_90 hl (by decide) rfl (fun ls hl => ?_)
      refine lv_aload_n hx hb dX2_transpose_64x64_2_92 rfl (lv_at hl 10 rfl) ?_
      refine lv_iload hx hb dX2_transpose_64x64_2_93 (lv_at hl 5 rfl) ?_
      refine lv_iload hx hb dX2_transpose_64x64_2_95 (lv_at hl 7 rfl) ?_
      refine wm_iadd hx hb dX2_transpose_64x64_2_97 ?_
      refine lv_iconst (v := nI 1) hx hb dX2_transpose_64x64_2_98 (by decide) ?_
      refine wm_iadd hx hb dX2_transpose_64x64_2_99 ?_
      refine wm_lald hx hb hK hP 0 0 rfl rfl (by omega) (Nat.le_of_ble_eq_true rfl) dX2_transpose_64x64_2_100 ?_
      refine lv_lstore (lv' := [(19, .long (h (j + sh + 1))), (17, .long (h (j + sh + 0))), (15, .long (h (j + 3))), (13, .long (h (j + 2))), (11, .long (h (j + 1))), (9, .long (h (j + 0))), (8, .int (nI (j))), (7, .int (nI (i))), (6, .int (nI (sh))), (4, .long (mkL d)), (3, .int (nI (d))), (0, .ref z), (2, .int (nI (0)))]) hx hb dX2_transpose_64x64_2_101 hl (by decide) rfl (fun ls hl => ?_)
      refine lv_aload_n hx hb dX2_transpose_64x64_2_103 rfl (lv_at hl 11 rfl) ?_
      refine lv_iload hx hb dX2_transpose_64x64_2_104 (lv_at hl 6 rfl) ?_
      refine lv_iload hx hb dX2_transpose_64x64_2_106 (lv_at hl 8 rfl) ?_
      refine wm_iadd hx hb dX2_transpose_64x64_2_108 ?_
      refine lv_iconst (v := nI 2) hx hb dX2_transpose_64x64_2_109 (by decide) ?_
      refine wm_iadd hx hb dX2_transpose_64x64_2_110 ?_
      refine wm_lald hx hb hK hP 0 0 rfl rfl (by omega) (Nat.le_of_ble_eq_true rfl) dX2_transpose_64x64_2_111 ?_
      refine lv_lstore (lv' := [(21, .long (h (j + sh + 2))), (19, .long (h (j + sh + 1))), (17, .long (h (j + sh + 0))), (15, .long (h (j + 3))), (13, .long (h (j + 2))), (11, .long (h (j + 1))), (9, .long (h (j + 0))), (8, .int (nI (j))), (7, .int (nI (i))), (6, .int (nI (sh))), (4, .long (mkL d)), (3, .int (nI (d))), (0, .ref z), (2, .int (nI (0)))]) hx hb dX2_transpose_64x64_2_112 hl (by decide) rfl (fun ls hl => ?_)
      refine lv_aload_n hx hb dX2_transpose_64x64_2_114 rfl (lv_at hl 12 rfl) ?_
      refine lv_iload hx hb dX2_transpose_64x64_2_115 (lv_at hl 7 rfl) ?_
      refine lv_iload hx hb dX2_transpose_64x64_2_117 (lv_at hl 9 rfl) ?_
      refine wm_iadd hx hb dX2_transpose_64x64_2_119 ?_
      refine lv_iconst (v := nI 3) hx hb dX2_transpose_64x64_2_120 (by decide) ?_
      refine wm_iadd hx hb dX2_transpose_64x64_2_121 ?_
      refine wm_lald hx hb hK hP 0 0 rfl rfl (by omega) (Nat.le_of_ble_eq_true rfl) dX2_transpose_64x64_2_122 ?_
      refine lv_lstore (lv' := [(23, .long (h (j + sh + 3))), (21, .long (h (j + sh + 2))), (19, .long (h (j + sh + 1))), (17, .long (h (j + sh + 0))), (15, .long (h (j + 3))), (13, .long (h (j + 2))), (11, .long (h (j + 1))), (9, .long (h (j + 0))), (8, .int (nI (j))), (7, .int (nI (i))), (6, .int (nI (sh))), (4, .long (mkL d)), (3, .int (nI (d))), (0, .ref z), (2, .int (nI (0)))]) hx hb dX2_transpose_64x64_2_123 hl (by decide) rfl (fun ls hl => ?_)
      refine lv_lload hx hb dX2_transpose_64x64_2_125 (lv_at hl 7 rfl) ?_
      refine lv_iload hx hb dX2_transpose_64x64_2_127 (lv_at hl 10 rfl) ?_
      refine lv_lushr (v := jU (h (j + 0)) sh) hx hb dX2_transpose_64x64_2_129 rfl ?_
      refine lv_lload hx hb dX2_transpose_64x64_2_130 (lv_at hl 3 rfl) ?_
      refine lv_lxor hx hb dX2_transpose_64x64_2_132 ?_
      refine lv_lload hx hb dX2_transpose_64x64_2_133 (lv_at hl 11 rfl) ?_
      refine lv_land hx hb dX2_transpose_64x64_2_135 ?_
      refine lv_lstore (lv' := [(25, .long (jT (mkL d) sh (h (j + 0)) (h (j + sh + 0)))), (23, .long (h (j + sh + 3))), (21, .long (h (j + sh + 2))), (19, .long (h (j + sh + 1))), (17, .long (h (j + sh + 0))), (15, .long (h (j + 3))), (13, .long (h (j + 2))), (11, .long (h (j + 1))), (9, .long (h (j + 0))), (8, .int (nI (j))), (7, .int (nI (i))), (6, .int (nI (sh))), (4, .long (mkL d)), (3, .int (nI (d))), (0, .ref z), (2, .int (nI (0)))]) hx hb dX2_transpose_64x64_2_136 hl (by decide) rfl (fun ls hl => ?_)
      refine lv_lload hx hb dX2_transpose_64x64_2_138 (lv_at hl 7 rfl) ?_
      refine lv_iload hx hb dX2_transpose_64x64_2_140 (lv_at hl 11 rfl) ?_
      refine lv_lushr (v := jU (h (j + 1)) sh) hx hb dX2_transpose_64x64_2_142 rfl ?_
      refine lv_lload hx hb dX2_transpose_64x64_2_143 (lv_at hl 3 rfl) ?_
      refine lv_lxor hx hb dX2_transpose_64x64_2_145 ?_
      refine lv_lload hx hb dX2_transpose_64x64_2_146 (lv_at hl 12 rfl) ?_
      refine lv_land hx hb dX2_transpose_64x64_2_148 ?_
      refine lv_lstore (lv' := [(27, .long (jT (mkL d) sh (h (j + 1)) (h (j + sh + 1)))), (25, .long (jT (mkL d) sh (h (j + 0)) (h (j + sh + 0)))), (23, .long (h (j + sh + 3))), (21, .long (h (j + sh + 2))), (19, .long (h (j + sh + 1))), (17, .long (h (j + sh + 0))), (15, .long (h (j + 3))), (13, .long (h (j + 2))), (11, .long (h (j + 1))), (9, .long (h (j + 0))), (8, .int (nI (j))), (7, .int (nI (i))), (6, .int (nI (sh))), (4, .long (mkL d)), (3, .int (nI (d))), (0, .ref z), (2, .int (nI (0)))]) hx hb dX2_transpose_64x64_2_149 hl (by decide) rfl (fun ls hl => ?_)
      refine lv_lload hx hb dX2_transpose_64x64_2_151 (lv_at hl 7 rfl) ?_
      refine lv_iload hx hb dX2_transpose_64x64_2_153 (lv_at hl 12 rfl) ?_
      refine lv_lushr (v := jU (h (j + 2)) sh) hx hb dX2_transpose_64x64_2_155 rfl ?_
      refine lv_lload hx hb dX2_transpose_64x64_2_156 (lv_at hl 3 rfl) ?_
      refine lv_lxor hx hb dX2_transpose_64x64_2_158 ?_
      refine lv_lload hx hb dX2_transpose_64x64_2_159 (lv_at hl 13 rfl) ?_
      refine lv_land hx hb dX2_transpose_64x64_2_161 ?_
      refine lv_lstore (lv' := [(29, .long (jT (mkL d) sh (h (j + 2)) (h (j + sh + 2)))), (27, .long (jT (mkL d) sh (h (j + 1)) (h (j + sh + 1)))), (25, .long (jT (mkL d) sh (h (j + 0)) (h (j + sh + 0)))), (23, .long (h (j + sh + 3))), (21, .long (h (j + sh + 2))), (19, .long (h (j + sh + 1))), (17, .long (h (j + sh + 0))), (15, .long (h (j + 3))), (13, .long (h (j + 2))), (11, .long (h (j + 1))), (9, .long (h (j + 0))), (8, .int (nI (j))), (7, .int (nI (i))), (6, .int (nI (sh))), (4, .long (mkL d)), (3, .int (nI (d))), (0, .ref z), (2, .int (nI (0)))]) hx hb dX2_transpose_64x64_2_162 hl (by decide) rfl (fun ls hl => ?_)
      refine lv_lload hx hb dX2_transpose_64x64_2_164 (lv_at hl 7 rfl) ?_
      refine lv_iload hx hb dX2_transpose_64x64_2_166 (lv_at hl 13 rfl) ?_
      refine lv_lushr (v := jU (h (j + 3)) sh) hx hb dX2_transpose_64x64_2_168 rfl ?_
      refine lv_lload hx hb dX2_transpose_64x64_2_169 (lv_at hl 3 rfl) ?_
      refine lv_lxor hx hb dX2_transpose_64x64_2_171 ?_
      refine lv_lload hx hb dX2_transpose_64x64_2_172 (lv_at hl 14 rfl) ?_
      refine lv_land hx hb dX2_transpose_64x64_2_174 ?_
      refine lv_lstore (lv' := [(31, .long (jT (mkL d) sh (h (j + 3)) (h (j + sh + 3)))), (29, .long (jT (mkL d) sh (h (j + 2)) (h (j + sh + 2)))), (27, .long (jT (mkL d) sh (h (j + 1)) (h (j + sh + 1)))), (25, .long (jT (mkL d) sh (h (j + 0)) (h (j + sh + 0)))), (23, .long (h (j + sh + 3))), (21, .long (h (j + sh + 2))), (19, .long (h (j + sh + 1))), (17, .long (h (j + sh + 0))), (15, .long (h (j + 3))), (13, .long (h (j + 2))), (11, .long (h (j + 1))), (9, .long (h (j + 0))), (8, .int (nI (j))), (7, .int (nI (i))), (6, .int (nI (sh))), (4, .long (mkL d)), (3, .int (nI (d))), (0, .ref z), (2, .int (nI (0)))]) hx hb dX2_transpose_64x64_2_175 hl (by decide) rfl (fun ls hl => ?_)
      refine lv_aload_n hx hb dX2_transpose_64x64_2_177 rfl (lv_at hl 17 rfl) ?_
      refine lv_iload hx hb dX2_transpose_64x64_2_178 (lv_at hl 12 rfl) ?_
      refine lv_iconst (v := nI 0) hx hb dX2_transpose_64x64_2_180 (by decide) ?_
      refine wm_iadd hx hb dX2_transpose_64x64_2_181 ?_
      refine lv_lload hx hb dX2_transpose_64x64_2_182 (lv_at hl 11 rfl) ?_
      refine lv_lload hx hb dX2_transpose_64x64_2_184 (lv_at hl 3 rfl) ?_
      refine lv_iload hx hb dX2_transpose_64x64_2_186 (lv_at hl 14 rfl) ?_
      refine lv_lshl (v := jL (jT (mkL d) sh (h (j + 0)) (h (j + sh + 0))) sh) hx hb dX2_transpose_64x64_2_188 rfl ?_
      refine lv_lxor hx hb dX2_transpose_64x64_2_189 ?_
      refine wm_last hx hb hK hP hD hS 0 0 rfl rfl (by omega) (Nat.le_of_ble_eq_true rfl) dX2_transpose_64x64_2_190 (fun g1 H locs e1 hP hD hS => ?_)
      have hP : va_P D vwCl (bw z r cL cR g1 f) H := hP
      have hD : va_D A (bw z r cL cR g1 f) := hD
      refine lv_aload_n hx hb dX2_transpose_64x64_2_191 rfl (lv_at hl 17 rfl) ?_
      refine lv_iload hx hb dX2_transpose_64x64_2_192 (lv_at hl 12 rfl) ?_
      refine lv_iconst (v := nI 1) hx hb dX2_transpose_64x64_2_194 (by decide) ?_
      refine wm_iadd hx hb dX2_transpose_64x64_2_195 ?_
      refine lv_lload hx hb dX2_transpose_64x64_2_196 (lv_at hl 10 rfl) ?_
      refine lv_lload hx hb dX2_transpose_64x64_2_198 (lv_at hl 2 rfl) ?_
      refine lv_iload hx hb dX2_transpose_64x64_2_200 (lv_at hl 14 rfl) ?_
      refine lv_lshl (v := jL (jT (mkL d) sh (h (j + 1)) (h (j + sh + 1))) sh) hx hb dX2_transpose_64x64_2_202 rfl ?_
      refine lv_lxor hx hb dX2_transpose_64x64_2_203 ?_
      refine wm_last hx hb hK hP hD hS 0 0 rfl rfl (by omega) (Nat.le_of_ble_eq_true rfl) dX2_transpose_64x64_2_204 (fun g2 H locs e2 hP hD hS => ?_)
      have hP : va_P D vwCl (bw z r cL cR g2 f) H := hP
      have hD : va_D A (bw z r cL cR g2 f) := hD
      refine lv_aload_n hx hb dX2_transpose_64x64_2_205 rfl (lv_at hl 17 rfl) ?_
      refine lv_iload hx hb dX2_transpose_64x64_2_206 (lv_at hl 12 rfl) ?_
      refine lv_iconst (v := nI 2) hx hb dX2_transpose_64x64_2_208 (by decide) ?_
      refine wm_iadd hx hb dX2_transpose_64x64_2_209 ?_
      refine lv_lload hx hb dX2_transpose_64x64_2_210 (lv_at hl 9 rfl) ?_
      refine lv_lload hx hb dX2_transpose_64x64_2_212 (lv_at hl 1 rfl) ?_
      refine lv_iload hx hb dX2_transpose_64x64_2_214 (lv_at hl 14 rfl) ?_
      refine lv_lshl (v := jL (jT (mkL d) sh (h (j + 2)) (h (j + sh + 2))) sh) hx hb dX2_transpose_64x64_2_216 rfl ?_
      refine lv_lxor hx hb dX2_transpose_64x64_2_217 ?_
      refine wm_last hx hb hK hP hD hS 0 0 rfl rfl (by omega) (Nat.le_of_ble_eq_true rfl) dX2_transpose_64x64_2_218 (fun g3 H locs e3 hP hD hS => ?_)
      have hP : va_P D vwCl (bw z r cL cR g3 f) H := hP
      have hD : va_D A (bw z r cL cR g3 f) := hD
      refine lv_aload_n hx hb dX2_transpose_64x64_2_219 rfl (lv_at hl 17 rfl) ?_
      refine lv_iload hx hb dX2_transpose_64x64_2_220 (lv_at hl 12 rfl) ?_
      refine lv_iconst (v := nI 3) hx hb dX2_transpose_64x64_2_222 (by decide) ?_
      refine wm_iadd hx hb dX2_transpose_64x64_2_223 ?_
      refine lv_lload hx hb dX2_transpose_64x64_2_224 (lv_at hl 8 rfl) ?_
      refine lv_lload hx hb dX2_transpose_64x64_2_226 (lv_at hl 0 rfl) ?_
      refine lv_iload hx hb dX2_transpose_64x64_2_228 (lv_at hl 14 rfl) ?_
      refine lv_lshl (v := jL (jT (mkL d) sh (h (j + 3)) (h (j + sh + 3))) sh) hx hb dX2_transpose_64x64_2_230 rfl ?_
      refine lv_lxor hx hb dX2_transpose_64x64_2_231 ?_
      refine wm_last hx hb hK hP hD hS 0 0 rfl rfl (by omega) (Nat.le_of_ble_eq_true rfl) dX2_transpose_64x64_2_232 (fun g4 H locs e4 hP hD hS => ?_)
      have hP : va_P D vwCl (bw z r cL cR g4 f) H := hP
      have hD : va_D A (bw z r cL cR g4 f) := hD
      refine lv_aload_n hx hb dX2_transpose_64x64_2_233 rfl (lv_at hl 17 rfl) ?_
      refine lv_iload hx hb dX2_transpose_64x64_2_234 (lv_at hl 12 rfl) ?_
      refine lv_iload hx hb dX2_transpose_64x64_2_236 (lv_at hl 14 rfl) ?_
      refine wm_iadd hx hb dX2_transpose_64x64_2_238 ?_
      refine lv_iconst (v := nI 0) hx hb dX2_transpose_64x64_2_239 (by decide) ?_
      refine wm_iadd hx hb dX2_transpose_64x64_2_240 ?_
      refine lv_lload hx hb dX2_transpose_64x64_2_241 (lv_at hl 7 rfl) ?_
      refine lv_lload hx hb dX2_transpose_64x64_2_243 (lv_at hl 3 rfl) ?_
      refine lv_lxor hx hb dX2_transpose_64x64_2_245 ?_
      refine wm_last hx hb hK hP hD hS 0 0 rfl rfl (by omega) (Nat.le_of_ble_eq_true rfl) dX2_transpose_64x64_2_246 (fun g5 H locs e5 hP hD hS => ?_)
      have hP : va_P D vwCl (bw z r cL cR g5 f) H := hP
      have hD : va_D A (bw z r cL cR g5 f) := hD
      refine lv_aload_n hx hb dX2_transpose_64x64_2_247 rfl (lv_at hl 17 rfl) ?_
      refine lv_iload hx hb dX2_transpose_64x64_2_248 (lv_at hl 12 rfl) ?_
      refine lv_iload hx hb dX2_transpose_64x64_2_250 (lv_at hl 14 rfl) ?_
      refine wm_iadd hx hb dX2_transpose_64x64_2_252 ?_
      refine lv_iconst (v := nI 1) hx hb dX2_transpose_64x64_2_253 (by decide) ?_
      refine wm_iadd hx hb dX2_transpose_64x64_2_254 ?_
      refine lv_lload hx hb dX2_transpose_64x64_2_255 (lv_at hl 6 rfl) ?_
      refine lv_lload hx hb dX2_transpose_64x64_2_257 (lv_at hl 2 rfl) ?_
      refine lv_lxor hx hb dX2_transpose_64x64_2_259 ?_
      refine wm_last hx hb hK hP hD hS 0 0 rfl rfl (by omega) (Nat.le_of_ble_eq_true rfl) dX2_transpose_64x64_2_260 (fun g6 H locs e6 hP hD hS => ?_)
      have hP : va_P D vwCl (bw z r cL cR g6 f) H := hP
      have hD : va_D A (bw z r cL cR g6 f) := hD
      refine lv_aload_n hx hb dX2_transpose_64x64_2_261 rfl (lv_at hl 17 rfl) ?_
      refine lv_iload hx hb dX2_transpose_64x64_2_262 (lv_at hl 12 rfl) ?_
      refine lv_iload hx hb dX2_transpose_64x64_2_264 (lv_at hl 14 rfl) ?_
      refine wm_iadd hx hb dX2_transpose_64x64_2_266 ?_
      refine lv_iconst (v := nI 2) hx hb dX2_transpose_64x64_2_267 (by decide) ?_
      refine wm_iadd hx hb dX2_transpose_64x64_2_268 ?_
      refine lv_lload hx hb dX2_transpose_64x64_2_269 (lv_at hl 5 rfl) ?_
      refine lv_lload hx hb dX2_transpose_64x64_2_271 (lv_at hl 1 rfl) ?_
      refine lv_lxor hx hb dX2_transpose_64x64_2_273 ?_
      refine wm_last hx hb hK hP hD hS 0 0 rfl rfl (by omega) (Nat.le_of_ble_eq_true rfl) dX2_transpose_64x64_2_274 (fun g7 H locs e7 hP hD hS => ?_)
      have hP : va_P D vwCl (bw z r cL cR g7 f) H := hP
      have hD : va_D A (bw z r cL cR g7 f) := hD
      refine lv_aload_n hx hb dX2_transpose_64x64_2_275 rfl (lv_at hl 17 rfl) ?_
      refine lv_iload hx hb dX2_transpose_64x64_2_276 (lv_at hl 12 rfl) ?_
      refine lv_iload hx hb dX2_transpose_64x64_2_278 (lv_at hl 14 rfl) ?_
      refine wm_iadd hx hb dX2_transpose_64x64_2_280 ?_
      refine lv_iconst (v := nI 3) hx hb dX2_transpose_64x64_2_281 (by decide) ?_
      refine wm_iadd hx hb dX2_transpose_64x64_2_282 ?_
      refine lv_lload hx hb dX2_transpose_64x64_2_283 (lv_at hl 4 rfl) ?_
      refine lv_lload hx hb dX2_transpose_64x64_2_285 (lv_at hl 0 rfl) ?_
      refine lv_lxor hx hb dX2_transpose_64x64_2_287 ?_
      refine wm_last hx hb hK hP hD hS 0 0 rfl rfl (by omega) (Nat.le_of_ble_eq_true rfl) dX2_transpose_64x64_2_288 (fun g8 H locs e8 hP hD hS => ?_)
      have hP : va_P D vwCl (bw z r cL cR g8 f) H := hP
      have hD : va_D A (bw z r cL cR g8 f) := hD
      have hfin : tI d (j + 4) V g8 := by
        subst hs
        exact tp_four hd hd2 (by omega) hj4 hjb hI e1 e2 e3 e4 e5 e6 e7 e8
      refine lv_iinc (v := nI (j + 4)) (lv' := [(8, .int (nI (j + 4))), (31, .long (jT (mkL d) sh (h (j + 3)) (h (j + sh + 3)))), (29, .long (jT (mkL d) sh (h (j + 2)) (h (j + sh + 2)))), (27, .long (jT (mkL d) sh (h (j + 1)) (h (j + sh + 1)))), (25, .long (jT (mkL d) sh (h (j + 0)) (h (j + sh + 0)))), (23, .long (h (j + sh + 3))), (21, .long (h (j + sh + 2))), (19, .long (h (j + sh + 1))), (17, .long (h (j + sh + 0))), (15, .long (h (j + 3))), (13, .long (h (j + 2))), (11, .long (h (j + 1))), (9, .long (h (j + 0))), (7, .int (nI (i))), (6, .int (nI (sh))), (4, .long (mkL d)), (3, .int (nI (d))), (0, .ref z), (2, .int (nI (0)))]) hx hb dX2_transpose_64x64_2_289 hl (k := 12) rfl (nI_inc j 4 _ (by decide)) (by decide) rfl (fun ls hl => ?_)
      refine lv_goto (tgt := 39) hx hb dX2_transpose_64x64_2_292 (by decide) ?_
      exact ih (j + 4) (by omega) (by omega) (by omega) (by omega) g8 H locs ls hfin hP hD hS (lv_sub hl [0, 13, 14, 15, 16, 17, 18] rfl)

set_option maxHeartbeats 4000000 in
set_option maxRecDepth 100000 in
theorem be_i4 {p : Program} {l : Launch} {e : Env} {R : Room} {s : State} {m : MethodId} {args : Array Value} {below : List Frame} {meth : Method} {c : Code} {Q : State → Prop} {D : mwG} {A : Nat → Prop} {cells slots : Nat} {z r : Nat} {cL cR : ClassId} {f : Nat → Int64} (hx : p.tables.exec = Jvm.exec) (hb : c.code = cX2_transpose_64x64_2) (hK : va_K D vwCl [(cL, .long), (cR, .long)] s)
    {d sh : Nat} (hd : d < 6) (hd2 : 2 ≤ d) (hs : 2 ^ d = sh) {V : Nat → Nat → Bool}
    (kend : ∀ (h : Nat → Int64) (H : Heap) (locs : List Loc) (ls : Array Slot), tI d 64 V h → va_P D vwCl (bw z r cL cR h f) H → va_D A (bw z r cL cR h f) → va_S A s.heap H locs → lv_has ls 33 (beK z d sh) → W p l e R s m args below meth c H locs cells slots Q (F0 m 307 ls [])) :
    ∀ (n i : Nat), i ≤ 64 → i % (2 * 2 ^ d) = 0 → 64 < i + n → ∀ (h : Nat → Int64) (H : Heap) (locs : List Loc) (ls : Array Slot), tI d i V h → va_P D vwCl (bw z r cL cR h f) H → va_D A (bw z r cL cR h f) → va_S A s.heap H locs → lv_has ls 33 ((7, .int (nI i)) :: beK z d sh) → W p l e R s m args below meth c H locs cells slots Q (F0 m 26 ls []) := by
  intro n
  induction n with
  | zero =>
    intro i h1 h2 h3
    omega
  | succ n ih =>
    intro i hi him hn h H locs ls hI hP hD hS hl
    refine lv_iload hx hb dX2_transpose_64x64_2_26 (lv_at hl 0 rfl) ?_
    refine lv_iload_n hx hb dX2_transpose_64x64_2_28 rfl (lv_at hl 5 rfl) ?_
    refine lv_bipush (v := nI 64) hx hb dX2_transpose_64x64_2_29 (by decide) ?_
    refine wm_iadd hx hb dX2_transpose_64x64_2_31 ?_
    refine wm_icge (tgt := 307) hx hb (by omega) (by omega) dX2_transpose_64x64_2_32 (by decide) (fun hc => ?_) (fun hc => ?_)
    · have ei : i = 64 := by omega
      subst ei
      exact kend h H locs ls hI hP hD hS (lv_sub hl [1, 2, 3, 4, 5] rfl)
    · have hi2 : i < 64 := by omega
      obtain ⟨hblk, hblk2, -⟩ := tp_f5 d hd i hi2 him
      have hpos : 0 < 2 ^ d := Nat.two_pow_pos d
      refine lv_iload hx hb dX2_transpose_64x64_2_35 (lv_at hl 0 rfl) ?_
      refine lv_istore (lv' := [(8, .int (nI (i))), (7, .int (nI (i))), (6, .int (nI (sh))), (4, .long (mkL d)), (3, .int (nI (d))), (0, .ref z), (2, .int (nI (0)))]) hx hb dX2_transpose_64x64_2_37 hl (by decide) rfl (fun ls hl => ?_)
      refine be_j4 hx hb hK hd hd2 hs hi2 him (V := V) (fun h H locs ls hI hP hD hS hl => ?_) (sh + 1) i (Nat.le_refl _) (by omega) (tp_f7 d hd hd2 i hi2 him).1 (by omega) h H locs ls hI hP hD hS (lv_sub hl [0, 1, 2, 3, 4, 5, 6] rfl)
      refine lv_iload hx hb dX2_transpose_64x64_2_295 (lv_at hl 0 rfl) ?_
      refine lv_iload hx hb dX2_transpose_64x64_2_297 (lv_at hl 1 rfl) ?_
      refine lv_iconst (v := nI 2) hx hb dX2_transpose_64x64_2_299 (by decide) ?_
      refine wm_imul hx hb dX2_transpose_64x64_2_300 ?_
      refine wm_iadd hx hb dX2_transpose_64x64_2_301 ?_
      have e2 : i + sh * 2 = i + 2 * 2 ^ d := by omega
      refine lv_istore (lv' := [(7, .int (nI (i + sh * 2))), (6, .int (nI (sh))), (4, .long (mkL d)), (3, .int (nI (d))), (0, .ref z), (2, .int (nI (0)))]) hx hb dX2_transpose_64x64_2_302 hl (by decide) rfl (fun ls hl => ?_)
      refine lv_goto (tgt := 26) hx hb dX2_transpose_64x64_2_304 (by decide) ?_
      have hI2 : tI d (i + sh * 2) V h := by
        rw [e2]
        refine tp_skip hd hi2 him ?_
        rw [hs]
        exact hI
      exact ih (i + sh * 2) (by omega) (by rw [e2]; exact hblk2) (by omega) h H locs ls hI2 hP hD hS (lv_sub hl [0, 1, 2, 3, 4, 5] rfl)

set_option maxHeartbeats 4000000 in
set_option maxRecDepth 100000 in
theorem be_v4 {p : Program} {l : Launch} {e : Env} {R : Room} {s : State} {m : MethodId} {args : Array Value} {below : List Frame} {meth : Method} {c : Code} {Q : State → Prop} {D : mwG} {A : Nat → Prop} {cells slots : Nat} {z r : Nat} {cL cR : ClassId} {f : Nat → Int64} (hx : p.tables.exec = Jvm.exec) (hb : c.code = cX2_transpose_64x64_2) (hK : va_K D vwCl [(cL, .long), (cR, .long)] s)
    (hown : s.vm.findClass RX2 = some m.cls) (hts : ∀ w ∈ lw_all, w.before args s = true) {t : Nat} (hT : mwT A t s)
    {d : Nat} (hd : d < 6) (hd2 : 2 ≤ d) {V : Nat → Nat → Bool}
    (kend : ∀ (h : Nat → Int64) (H : Heap) (locs : List Loc) (ls : Array Slot), (∀ a, a < 64 → ∀ b, b < 64 → lb (h a) b = tM d V a b) → va_P D vwCl (bw z r cL cR h f) H → va_D A (bw z r cL cR h f) → va_S A s.heap H locs → lv_has ls 33 (beM z d) → W p l e R s m args below meth c H locs cells slots Q (F0 m 307 ls [])) : ∀ (h : Nat → Int64) (H : Heap) (locs : List Loc) (ls : Array Slot), (∀ a, a < 64 → ∀ b, b < 64 → lb (h a) b = V a b) → va_P D vwCl (bw z r cL cR h f) H → va_D A (bw z r cL cR h f) → va_S A s.heap H locs → lv_has ls 33 (beM z d) → W p l e R s m args below meth c H locs cells slots Q (F0 m 11 ls []) := by
  intro h H locs ls hV hP hD hS hl
  refine va_gets hx hb hT.1 hS hown (hts _ q46) (fun _ h => h) dX2_transpose_64x64_2_11 ?_
  refine lv_iload_n hx hb dX2_transpose_64x64_2_14 rfl (lv_at hl 0 rfl) ?_
  refine va_tl hx hb hT.2 hS (i := nI d) (vp_in_nI hd (by omega)) (v := .long (mkL d)) (by rw [nI_clamp (by omega)]; rfl) dX2_transpose_64x64_2_15 ?_
  refine lv_lstore (lv' := [(4, .long (mkL d)), (3, .int (nI (d))), (0, .ref z), (2, .int (nI (0)))]) hx hb dX2_transpose_64x64_2_16 hl (by decide) rfl (fun ls hl => ?_)
  refine lv_iconst (v := nI 1) hx hb dX2_transpose_64x64_2_18 (by decide) ?_
  refine lv_iload_n hx hb dX2_transpose_64x64_2_19 rfl (lv_at hl 1 rfl) ?_
  refine lv_ishl hx hb dX2_transpose_64x64_2_20 ?_
  rw [be_pow d hd]
  refine lv_istore (lv' := [(6, .int (nI (2 ^ d))), (4, .long (mkL d)), (3, .int (nI (d))), (0, .ref z), (2, .int (nI (0)))]) hx hb dX2_transpose_64x64_2_21 hl (by decide) rfl (fun ls hl => ?_)
  refine lv_iload_n hx hb dX2_transpose_64x64_2_23 rfl (lv_at hl 4 rfl) ?_
  refine lv_istore (lv' := [(7, .int (nI (0))), (6, .int (nI (2 ^ d))), (4, .long (mkL d)), (3, .int (nI (d))), (0, .ref z), (2, .int (nI (0)))]) hx hb dX2_transpose_64x64_2_24 hl (by decide) rfl (fun ls hl => ?_)
  refine be_i4 hx hb hK hd hd2 rfl (V := V) (fun h H locs ls hI hP hD hS hl => ?_) 65 0 (Nat.zero_le _) (Nat.zero_mod _) (by omega) h H locs ls (tp_start hV) hP hD hS (lv_sub hl [0, 1, 2, 3, 4, 5] rfl)
  exact kend h H locs ls (tp_end hI) hP hD hS (lv_sub hl [2, 3, 4] rfl)

set_option maxHeartbeats 4000000 in
set_option maxRecDepth 100000 in
theorem be_j1 {p : Program} {l : Launch} {e : Env} {R : Room} {s : State} {m : MethodId} {args : Array Value} {below : List Frame} {meth : Method} {c : Code} {Q : State → Prop} {D : mwG} {A : Nat → Prop} {cells slots : Nat} {z r : Nat} {cL cR : ClassId} {f : Nat → Int64} (hx : p.tables.exec = Jvm.exec) (hb : c.code = cX2_transpose_64x64_2) (hK : va_K D vwCl [(cL, .long), (cR, .long)] s)
    {d sh i : Nat} (hd : d < 6) (hs : 2 ^ d = sh) (hi : i < 64) (him : i % (2 * 2 ^ d) = 0) {V : Nat → Nat → Bool}
    (kend : ∀ (h : Nat → Int64) (H : Heap) (locs : List Loc) (ls : Array Slot), tI d (i + sh) V h → va_P D vwCl (bw z r cL cR h f) H → va_D A (bw z r cL cR h f) → va_S A s.heap H locs → lv_has ls 33 (beL z d sh i) → W p l e R s m args below meth c H locs cells slots Q (F0 m 415 ls [])) :
    ∀ (n j : Nat), i ≤ j → j ≤ i + sh → i + sh < j + n → ∀ (h : Nat → Int64) (H : Heap) (locs : List Loc) (ls : Array Slot), tI d j V h → va_P D vwCl (bw z r cL cR h f) H → va_D A (bw z r cL cR h f) → va_S A s.heap H locs → lv_has ls 33 ((8, .int (nI j)) :: beL z d sh i) → W p l e R s m args below meth c H locs cells slots Q (F0 m 343 ls []) := by
  intro n
  induction n with
  | zero =>
    intro j h1 h2 h4
    omega
  | succ n ih =>
    intro j hij hj hn h H locs ls hI hP hD hS hl
    have hblk := tp_f5 d hd i hi him
    refine lv_iload hx hb dX2_transpose_64x64_2_343 (lv_at hl 0 rfl) ?_
    refine lv_iload hx hb dX2_transpose_64x64_2_345 (lv_at hl 1 rfl) ?_
    refine lv_iload hx hb dX2_transpose_64x64_2_347 (lv_at hl 2 rfl) ?_
    refine wm_iadd hx hb dX2_transpose_64x64_2_349 ?_
    refine wm_icge (tgt := 415) hx hb (by omega) (by omega) dX2_transpose_64x64_2_350 (by decide) (fun hc => ?_) (fun hc => ?_)
    · have ej : j = i + sh := by omega
      subst ej
      exact kend h H locs ls hI hP hD hS (lv_sub hl [1, 2, 3, 4, 5, 6] rfl)
    · have hjb : j.testBit d = false := tp_f6 d hd i hi him j hij (by rw [hs]; exact hc)
      have hB := (tp_f1 d hd j (by omega) hjb).1
      rw [hs] at hB
      refine lv_aload_n hx hb dX2_transpose_64x64_2_353 rfl (lv_at hl 5 rfl) ?_
      refine lv_iload hx hb dX2_transpose_64x64_2_354 (lv_at hl 0 rfl) ?_
      refine lv_iconst (v := nI 0) hx hb dX2_transpose_64x64_2_356 (by decide) ?_
      refine wm_iadd hx hb dX2_transpose_64x64_2_357 ?_
      refine wm_lald hx hb hK hP 0 0 rfl rfl (by omega) (Nat.le_of_ble_eq_true rfl) dX2_transpose_64x64_2_358 ?_
      refine lv_lstore (lv' := [(9, .long (h (j + 0))), (8, .int (nI (j))), (7, .int (nI (i))), (6, .int (nI (sh))), (4, .long (mkL d)), (3, .int (nI (d))), (0, .ref z), (2, .int (nI (0)))]) hx hb dX2_transpose_64x64_2_359 hl (by decide) rfl (fun ls hl => ?_)
      refine lv_aload_n hx hb dX2_transpose_64x64_2_361 rfl (lv_at hl 6 rfl) ?_
      refine lv_iload hx hb dX2_transpose_64x64_2_362 (lv_at hl 1 rfl) ?_
      refine lv_iload hx hb dX2_transpose_64x64_2_364 (lv_at hl 3 rfl) ?_
      refine wm_iadd hx hb dX2_transpose_64x64_2_366 ?_
      refine wm_lald hx hb hK hP 0 0 rfl rfl (by omega) (Nat.le_of_ble_eq_true rfl) dX2_transpose_64x64_2_367 ?_
      refine lv_lstore (lv' := [(11, .long (h (j + sh))), (9, .long (h (j + 0))), (8, .int (nI (j))), (7, .int (nI (i))), (6, .int (nI (sh))), (4, .long (mkL d)), (3, .int (nI (d))), (0, .ref z), (2, .int (nI (0)))]) hx hb dX2_transpose_64x64_2_368 hl (by decide) rfl (fun ls hl => ?_)
      refine lv_lload hx hb dX2_transpose_64x64_2_370 (lv_at hl 1 rfl) ?_
      refine lv_iload hx hb dX2_transpose_64x64_2_372 (lv_at hl 4 rfl) ?_
      refine lv_lushr (v := jU (h (j + 0)) sh) hx hb dX2_transpose_64x64_2_374 rfl ?_
      refine lv_lload hx hb dX2_transpose_64x64_2_375 (lv_at hl 0 rfl) ?_
      refine lv_lxor hx hb dX2_transpose_64x64_2_377 ?_
      refine lv_lload hx hb dX2_transpose_64x64_2_378 (lv_at hl 5 rfl) ?_
      refine lv_land hx hb dX2_transpose_64x64_2_380 ?_
      refine lv_lstore (lv' := [(13, .long (jT (mkL d) sh (h (j + 0)) (h (j + sh)))), (11, .long (h (j + sh))), (9, .long (h (j + 0))), (8, .int (nI (j))), (7, .int (nI (i))), (6, .int (nI (sh))), (4, .long (mkL d)), (3, .int (nI (d))), (0, .ref z), (2, .int (nI (0)))]) hx hb dX2_transpose_64x64_2_381 hl (by decide) rfl (fun ls hl => ?_)
      refine lv_aload_n hx hb dX2_transpose_64x64_2_383 rfl (lv_at hl 8 rfl) ?_
      refine lv_iload hx hb dX2_transpose_64x64_2_384 (lv_at hl 3 rfl) ?_
      refine lv_iconst (v := nI 0) hx hb dX2_transpose_64x64_2_386 (by decide) ?_
      refine wm_iadd hx hb dX2_transpose_64x64_2_387 ?_
      refine lv_lload hx hb dX2_transpose_64x64_2_388 (lv_at hl 2 rfl) ?_
      refine lv_lload hx hb dX2_transpose_64x64_2_390 (lv_at hl 0 rfl) ?_
      refine lv_iload hx hb dX2_transpose_64x64_2_392 (lv_at hl 5 rfl) ?_
      refine lv_lshl (v := jL (jT (mkL d) sh (h (j + 0)) (h (j + sh))) sh) hx hb dX2_transpose_64x64_2_394 rfl ?_
      refine lv_lxor hx hb dX2_transpose_64x64_2_395 ?_
      refine wm_last hx hb hK hP hD hS 0 0 rfl rfl (by omega) (Nat.le_of_ble_eq_true rfl) dX2_transpose_64x64_2_396 (fun g1 H locs e1 hP hD hS => ?_)
      have hP : va_P D vwCl (bw z r cL cR g1 f) H := hP
      have hD : va_D A (bw z r cL cR g1 f) := hD
      refine lv_aload_n hx hb dX2_transpose_64x64_2_397 rfl (lv_at hl 8 rfl) ?_
      refine lv_iload hx hb dX2_transpose_64x64_2_398 (lv_at hl 3 rfl) ?_
      refine lv_iload hx hb dX2_transpose_64x64_2_400 (lv_at hl 5 rfl) ?_
      refine wm_iadd hx hb dX2_transpose_64x64_2_402 ?_
      refine lv_lload hx hb dX2_transpose_64x64_2_403 (lv_at hl 1 rfl) ?_
      refine lv_lload hx hb dX2_transpose_64x64_2_405 (lv_at hl 0 rfl) ?_
      refine lv_lxor hx hb dX2_transpose_64x64_2_407 ?_
      refine wm_last hx hb hK hP hD hS 0 0 rfl rfl (by omega) (Nat.le_of_ble_eq_true rfl) dX2_transpose_64x64_2_408 (fun g2 H locs e2 hP hD hS => ?_)
      have hP : va_P D vwCl (bw z r cL cR g2 f) H := hP
      have hD : va_D A (bw z r cL cR g2 f) := hD
      have hfin : tI d (j + 1) V g2 := by
        subst hs
        exact tp_one hd (by omega) hjb hI e1 e2
      refine lv_iinc (v := nI (j + 1)) (lv' := [(8, .int (nI (j + 1))), (13, .long (jT (mkL d) sh (h (j + 0)) (h (j + sh)))), (11, .long (h (j + sh))), (9, .long (h (j + 0))), (7, .int (nI (i))), (6, .int (nI (sh))), (4, .long (mkL d)), (3, .int (nI (d))), (0, .ref z), (2, .int (nI (0)))]) hx hb dX2_transpose_64x64_2_409 hl (k := 3) rfl (nI_inc j 1 _ (by decide)) (by decide) rfl (fun ls hl => ?_)
      refine lv_goto (tgt := 343) hx hb dX2_transpose_64x64_2_412 (by decide) ?_
      exact ih (j + 1) (by omega) (by omega) (by omega) g2 H locs ls hfin hP hD hS (lv_sub hl [0, 4, 5, 6, 7, 8, 9] rfl)

set_option maxHeartbeats 4000000 in
set_option maxRecDepth 100000 in
theorem be_i1 {p : Program} {l : Launch} {e : Env} {R : Room} {s : State} {m : MethodId} {args : Array Value} {below : List Frame} {meth : Method} {c : Code} {Q : State → Prop} {D : mwG} {A : Nat → Prop} {cells slots : Nat} {z r : Nat} {cL cR : ClassId} {f : Nat → Int64} (hx : p.tables.exec = Jvm.exec) (hb : c.code = cX2_transpose_64x64_2) (hK : va_K D vwCl [(cL, .long), (cR, .long)] s)
    {d sh : Nat} (hd : d < 6) (hs : 2 ^ d = sh) {V : Nat → Nat → Bool}
    (kend : ∀ (h : Nat → Int64) (H : Heap) (locs : List Loc) (ls : Array Slot), tI d 64 V h → va_P D vwCl (bw z r cL cR h f) H → va_D A (bw z r cL cR h f) → va_S A s.heap H locs → lv_has ls 33 (beK z d sh) → W p l e R s m args below meth c H locs cells slots Q (F0 m 427 ls [])) :
    ∀ (n i : Nat), i ≤ 64 → i % (2 * 2 ^ d) = 0 → 64 < i + n → ∀ (h : Nat → Int64) (H : Heap) (locs : List Loc) (ls : Array Slot), tI d i V h → va_P D vwCl (bw z r cL cR h f) H → va_D A (bw z r cL cR h f) → va_S A s.heap H locs → lv_has ls 33 ((7, .int (nI i)) :: beK z d sh) → W p l e R s m args below meth c H locs cells slots Q (F0 m 330 ls []) := by
  intro n
  induction n with
  | zero =>
    intro i h1 h2 h3
    omega
  | succ n ih =>
    intro i hi him hn h H locs ls hI hP hD hS hl
    refine lv_iload hx hb dX2_transpose_64x64_2_330 (lv_at hl 0 rfl) ?_
    refine lv_iload_n hx hb dX2_transpose_64x64_2_332 rfl (lv_at hl 5 rfl) ?_
    refine lv_bipush (v := nI 64) hx hb dX2_transpose_64x64_2_333 (by decide) ?_
    refine wm_iadd hx hb dX2_transpose_64x64_2_335 ?_
    refine wm_icge (tgt := 427) hx hb (by omega) (by omega) dX2_transpose_64x64_2_336 (by decide) (fun hc => ?_) (fun hc => ?_)
    · have ei : i = 64 := by omega
      subst ei
      exact kend h H locs ls hI hP hD hS (lv_sub hl [1, 2, 3, 4, 5] rfl)
    · have hi2 : i < 64 := by omega
      obtain ⟨hblk, hblk2, -⟩ := tp_f5 d hd i hi2 him
      have hpos : 0 < 2 ^ d := Nat.two_pow_pos d
      refine lv_iload hx hb dX2_transpose_64x64_2_339 (lv_at hl 0 rfl) ?_
      refine lv_istore (lv' := [(8, .int (nI (i))), (7, .int (nI (i))), (6, .int (nI (sh))), (4, .long (mkL d)), (3, .int (nI (d))), (0, .ref z), (2, .int (nI (0)))]) hx hb dX2_transpose_64x64_2_341 hl (by decide) rfl (fun ls hl => ?_)
      refine be_j1 hx hb hK hd hs hi2 him (V := V) (fun h H locs ls hI hP hD hS hl => ?_) (sh + 1) i (Nat.le_refl _) (by omega) (by omega) h H locs ls hI hP hD hS (lv_sub hl [0, 1, 2, 3, 4, 5, 6] rfl)
      refine lv_iload hx hb dX2_transpose_64x64_2_415 (lv_at hl 0 rfl) ?_
      refine lv_iload hx hb dX2_transpose_64x64_2_417 (lv_at hl 1 rfl) ?_
      refine lv_iconst (v := nI 2) hx hb dX2_transpose_64x64_2_419 (by decide) ?_
      refine wm_imul hx hb dX2_transpose_64x64_2_420 ?_
      refine wm_iadd hx hb dX2_transpose_64x64_2_421 ?_
      have e2 : i + sh * 2 = i + 2 * 2 ^ d := by omega
      refine lv_istore (lv' := [(7, .int (nI (i + sh * 2))), (6, .int (nI (sh))), (4, .long (mkL d)), (3, .int (nI (d))), (0, .ref z), (2, .int (nI (0)))]) hx hb dX2_transpose_64x64_2_422 hl (by decide) rfl (fun ls hl => ?_)
      refine lv_goto (tgt := 330) hx hb dX2_transpose_64x64_2_424 (by decide) ?_
      have hI2 : tI d (i + sh * 2) V h := by
        rw [e2]
        refine tp_skip hd hi2 him ?_
        rw [hs]
        exact hI
      exact ih (i + sh * 2) (by omega) (by rw [e2]; exact hblk2) (by omega) h H locs ls hI2 hP hD hS (lv_sub hl [0, 1, 2, 3, 4, 5] rfl)

set_option maxHeartbeats 4000000 in
set_option maxRecDepth 100000 in
theorem be_v1 {p : Program} {l : Launch} {e : Env} {R : Room} {s : State} {m : MethodId} {args : Array Value} {below : List Frame} {meth : Method} {c : Code} {Q : State → Prop} {D : mwG} {A : Nat → Prop} {cells slots : Nat} {z r : Nat} {cL cR : ClassId} {f : Nat → Int64} (hx : p.tables.exec = Jvm.exec) (hb : c.code = cX2_transpose_64x64_2) (hK : va_K D vwCl [(cL, .long), (cR, .long)] s)
    (hown : s.vm.findClass RX2 = some m.cls) (hts : ∀ w ∈ lw_all, w.before args s = true) {t : Nat} (hT : mwT A t s)
    {d : Nat} (hd : d < 6) {V : Nat → Nat → Bool}
    (kend : ∀ (h : Nat → Int64) (H : Heap) (locs : List Loc) (ls : Array Slot), (∀ a, a < 64 → ∀ b, b < 64 → lb (h a) b = tM d V a b) → va_P D vwCl (bw z r cL cR h f) H → va_D A (bw z r cL cR h f) → va_S A s.heap H locs → lv_has ls 33 (beM z d) → W p l e R s m args below meth c H locs cells slots Q (F0 m 427 ls [])) : ∀ (h : Nat → Int64) (H : Heap) (locs : List Loc) (ls : Array Slot), (∀ a, a < 64 → ∀ b, b < 64 → lb (h a) b = V a b) → va_P D vwCl (bw z r cL cR h f) H → va_D A (bw z r cL cR h f) → va_S A s.heap H locs → lv_has ls 33 (beM z d) → W p l e R s m args below meth c H locs cells slots Q (F0 m 315 ls []) := by
  intro h H locs ls hV hP hD hS hl
  refine va_gets hx hb hT.1 hS hown (hts _ q46) (fun _ h => h) dX2_transpose_64x64_2_315 ?_
  refine lv_iload_n hx hb dX2_transpose_64x64_2_318 rfl (lv_at hl 0 rfl) ?_
  refine va_tl hx hb hT.2 hS (i := nI d) (vp_in_nI hd (by omega)) (v := .long (mkL d)) (by rw [nI_clamp (by omega)]; rfl) dX2_transpose_64x64_2_319 ?_
  refine lv_lstore (lv' := [(4, .long (mkL d)), (3, .int (nI (d))), (0, .ref z), (2, .int (nI (0)))]) hx hb dX2_transpose_64x64_2_320 hl (by decide) rfl (fun ls hl => ?_)
  refine lv_iconst (v := nI 1) hx hb dX2_transpose_64x64_2_322 (by decide) ?_
  refine lv_iload_n hx hb dX2_transpose_64x64_2_323 rfl (lv_at hl 1 rfl) ?_
  refine lv_ishl hx hb dX2_transpose_64x64_2_324 ?_
  rw [be_pow d hd]
  refine lv_istore (lv' := [(6, .int (nI (2 ^ d))), (4, .long (mkL d)), (3, .int (nI (d))), (0, .ref z), (2, .int (nI (0)))]) hx hb dX2_transpose_64x64_2_325 hl (by decide) rfl (fun ls hl => ?_)
  refine lv_iload_n hx hb dX2_transpose_64x64_2_327 rfl (lv_at hl 4 rfl) ?_
  refine lv_istore (lv' := [(7, .int (nI (0))), (6, .int (nI (2 ^ d))), (4, .long (mkL d)), (3, .int (nI (d))), (0, .ref z), (2, .int (nI (0)))]) hx hb dX2_transpose_64x64_2_328 hl (by decide) rfl (fun ls hl => ?_)
  refine be_i1 hx hb hK hd rfl (V := V) (fun h H locs ls hI hP hD hS hl => ?_) 65 0 (Nat.zero_le _) (Nat.zero_mod _) (by omega) h H locs ls (tp_start hV) hP hD hS (lv_sub hl [0, 1, 2, 3, 4, 5] rfl)
  exact kend h H locs ls (tp_end hI) hP hD hS (lv_sub hl [2, 3, 4] rfl)

set_option maxHeartbeats 4000000 in
set_option maxRecDepth 100000 in
/-- the first do-while: levels d = k + 2 down to 2 -/
theorem be_d4 {p : Program} {l : Launch} {e : Env} {R : Room} {s : State} {m : MethodId} {args : Array Value} {below : List Frame} {meth : Method} {c : Code} {Q : State → Prop} {D : mwG} {A : Nat → Prop} {cells slots : Nat} {z r : Nat} {cL cR : ClassId} {f : Nat → Int64} (hx : p.tables.exec = Jvm.exec) (hb : c.code = cX2_transpose_64x64_2) (hK : va_K D vwCl [(cL, .long), (cR, .long)] s)
    (hown : s.vm.findClass RX2 = some m.cls) (hts : ∀ w ∈ lw_all, w.before args s = true) {t : Nat} (hT : mwT A t s) {V : Nat → Nat → Bool}
    (kend : ∀ (h : Nat → Int64) (H : Heap) (locs : List Loc) (ls : Array Slot), (∀ a, a < 64 → ∀ b, b < 64 → lb (h a) b = tV V 1 a b) → va_P D vwCl (bw z r cL cR h f) H → va_D A (bw z r cL cR h f) → va_S A s.heap H locs → lv_has ls 33 (beM z 1) → W p l e R s m args below meth c H locs cells slots Q (F0 m 315 ls [])) : ∀ k, k + 2 < 6 → ∀ (h : Nat → Int64) (H : Heap) (locs : List Loc) (ls : Array Slot), (∀ a, a < 64 → ∀ b, b < 64 → lb (h a) b = tV V (k + 2) a b) → va_P D vwCl (bw z r cL cR h f) H → va_D A (bw z r cL cR h f) → va_S A s.heap H locs → lv_has ls 33 (beM z (k + 2)) → W p l e R s m args below meth c H locs cells slots Q (F0 m 11 ls []) := by
  intro k
  induction k with
  | zero =>
    intro hk h H locs ls hV hP hD hS hl
    refine be_v4 hx hb hK hown hts hT (d := 2) hk (by omega) (V := tV V 2) (fun h H locs ls hV hP hD hS hl => ?_) h H locs ls hV hP hD hS hl
    refine lv_iinc (v := nI 1) (lv' := beM z 1) hx hb dX2_transpose_64x64_2_307 hl (k := 0) rfl (nI_dec 1) (by decide) rfl (fun ls hl => ?_)
    refine lv_iload_n hx hb dX2_transpose_64x64_2_310 rfl (lv_at hl 0 rfl) ?_
    refine lv_iconst (v := nI 2) hx hb dX2_transpose_64x64_2_311 (by decide) ?_
    refine wm_icge (tgt := 11) hx hb (by omega) (by omega) dX2_transpose_64x64_2_312 (by decide) (fun hc => ?_) (fun hc => ?_)
    · omega
    · exact kend h H locs ls hV hP hD hS hl
  | succ k ih =>
    intro hk h H locs ls hV hP hD hS hl
    refine be_v4 hx hb hK hown hts hT (d := k + 1 + 2) hk (by omega) (V := tV V (k + 1 + 2)) (fun h H locs ls hV hP hD hS hl => ?_) h H locs ls hV hP hD hS hl
    refine lv_iinc (v := nI (k + 2)) (lv' := beM z (k + 2)) hx hb dX2_transpose_64x64_2_307 hl (k := 0) rfl (nI_dec (k + 2)) (by decide) rfl (fun ls hl => ?_)
    refine lv_iload_n hx hb dX2_transpose_64x64_2_310 rfl (lv_at hl 0 rfl) ?_
    refine lv_iconst (v := nI 2) hx hb dX2_transpose_64x64_2_311 (by decide) ?_
    refine wm_icge (tgt := 11) hx hb (by omega) (by omega) dX2_transpose_64x64_2_312 (by decide) (fun hc => ?_) (fun hc => ?_)
    · refine ih (by omega) h H locs ls (fun a ha b hb2 => ?_) hP hD hS hl
      rw [tV_next (d := k + 2) (by omega)]
      exact hV a ha b hb2
    · omega

set_option maxHeartbeats 4000000 in
set_option maxRecDepth 100000 in
/-- the second do-while: levels d = k down to 0 -/
theorem be_d1 {p : Program} {l : Launch} {e : Env} {R : Room} {s : State} {m : MethodId} {args : Array Value} {below : List Frame} {meth : Method} {c : Code} {Q : State → Prop} {D : mwG} {A : Nat → Prop} {cells slots : Nat} {z r : Nat} {cL cR : ClassId} {f : Nat → Int64} (hx : p.tables.exec = Jvm.exec) (hb : c.code = cX2_transpose_64x64_2) (hK : va_K D vwCl [(cL, .long), (cR, .long)] s)
    (hown : s.vm.findClass RX2 = some m.cls) (hts : ∀ w ∈ lw_all, w.before args s = true) {t : Nat} (hT : mwT A t s) {V : Nat → Nat → Bool}
    (kend : ∀ (h : Nat → Int64) (H : Heap) (locs : List Loc) (ls : Array Slot), (∀ a, a < 64 → ∀ b, b < 64 → lb (h a) b = V b a) → va_P D vwCl (bw z r cL cR h f) H → va_D A (bw z r cL cR h f) → va_S A s.heap H locs → W p l e R s m args below meth c H locs cells slots Q (F0 m 434 ls [])) : ∀ k, k < 2 → ∀ (h : Nat → Int64) (H : Heap) (locs : List Loc) (ls : Array Slot), (∀ a, a < 64 → ∀ b, b < 64 → lb (h a) b = tV V k a b) → va_P D vwCl (bw z r cL cR h f) H → va_D A (bw z r cL cR h f) → va_S A s.heap H locs → lv_has ls 33 (beM z k) → W p l e R s m args below meth c H locs cells slots Q (F0 m 315 ls []) := by
  intro k
  induction k with
  | zero =>
    intro hk h H locs ls hV hP hD hS hl
    refine be_v1 hx hb hK hown hts hT (d := 0) (by omega) (V := tV V 0) (fun h H locs ls hV hP hD hS hl => ?_) h H locs ls hV hP hD hS hl
    refine lv_iinc (v := -1) (lv' := [(3, .int (-1)), (0, .ref z), (2, .int (nI 0))]) hx hb dX2_transpose_64x64_2_427 hl (k := 0) rfl (by decide) (by decide) rfl (fun ls hl => ?_)
    refine lv_iload_n hx hb dX2_transpose_64x64_2_430 rfl (lv_at hl 0 rfl) ?_
    refine lv_if_ge (tgt := 315) hx hb dX2_transpose_64x64_2_431 (by decide) (fun hc => ?_) (fun hc => ?_)
    · exact absurd hc (by decide)
    · exact kend h H locs ls (fun a ha b hb2 => by rw [hV a ha b hb2]; exact tV_all V ha hb2) hP hD hS
  | succ k ih =>
    intro hk h H locs ls hV hP hD hS hl
    refine be_v1 hx hb hK hown hts hT (d := k + 1) (by omega) (V := tV V (k + 1)) (fun h H locs ls hV hP hD hS hl => ?_) h H locs ls hV hP hD hS hl
    refine lv_iinc (v := nI k) (lv' := beM z k) hx hb dX2_transpose_64x64_2_427 hl (k := 0) rfl (nI_dec k) (by decide) rfl (fun ls hl => ?_)
    refine lv_iload_n hx hb dX2_transpose_64x64_2_430 rfl (lv_at hl 0 rfl) ?_
    refine lv_if_ge (tgt := 315) hx hb dX2_transpose_64x64_2_431 (by decide) (fun hc => ?_) (fun hc => ?_)
    · refine ih (by omega) h H locs ls (fun a ha b hb2 => ?_) hP hD hS hl
      rw [tV_next (d := k) (by omega)]
      exact hV a ha b hb2
    · exact absurd (nI_pos' (n := k) (by omega)) hc

set_option maxHeartbeats 4000000 in
set_option maxRecDepth 100000 in
/-- transpose_64x64(out, in, 0): out is in's transposition, in stays -/
theorem met_tr3 (l : Launch) (D : mwG) (z r t : Nat) (cL cR : ClassId) (h0 f : Nat → Int64) (sz : Nat) : Met l yX2_transpose_64x64_2 (ws_ yX2_transpose_64x64_2 cX2_transpose_64x64_2 33 none) ({ frames := 1, cells := 0, slots := 0, locals := 20 })
    (va_Pc [.ref z, .ref r, .int (nI 0)] (fun U => mwC D (bw z r cL cR h0 f) [(cL, .long), (cR, .long)] sz U ∧ mwT (va_A (bw z r cL cR h0 f) sz) t U))
    (va_Qv (fun u : Nat → Int64 => ∀ a, a < 64 → ∀ b, b < 64 → lb (u a) b = lb (f b) a) (fun u T => mwE D (va_A (bw z r cL cR h0 f) sz) (bw z r cL cR u f) [(cL, .long), (cR, .long)] T) (va_A (bw z r cL cR h0 f) sz)) 0 0 (va_A (bw z r cL cR h0 f) sz) := by
  refine Met.ofW (cc := cX2_transpose_64x64_2) (maxL := 33) (ret := none) (by decide) rfl ?_
  intro p e s m args below meth c s₁ B hml hv
  obtain ⟨rfl, ⟨hsz, hP, hK, hD0⟩, hT⟩ := hv
  have hx := B.exec
  have hb := B.bytes
  have hr := B.returns
  have hts := atoms_spec (ws := ws_ yX2_transpose_64x64_2 cX2_transpose_64x64_2 33 none) B.pre
  have hts : ∀ w ∈ lw_all, w.before _ s = true := fun w h => hts w (List.mem_cons_of_mem _ h)
  have hown : s.vm.findClass RX2 = some m.cls := findClass_of_methodNamed B.named
  have hlocks := B.notSynchronized
  subst hsz
  have hD := hD0.self (sz := s.heap.size)
  generalize hAe : va_A (bw z r cL cR h0 f) s.heap.size = A at hD hT ⊢
  have hA : ∀ q : Nat, s.heap.size ≤ q → A q := fun q h => by rw [← hAe]; exact Or.inr h
  have hS : va_S A s.heap s.heap [] := va_S.rf
  have hl := lv_entry ([.ref z, .ref r, .int (nI 0)]) (n := 33) (Nat.le_of_ble_eq_true rfl)
  rw [lg_entry_eq]
  generalize (lg_sl ([.ref z, .ref r, .int (nI 0)]) ++ List.replicate (33 - (lg_sl ([.ref z, .ref r, .int (nI 0)])).length) Slot.unset).toArray = ls at hl ⊢
  have hl : lv_has ls 33 [(0, .ref z), (1, .ref r), (2, .int (nI 0))] := hl
  refine lv_aload_n hx hb dX2_transpose_64x64_2_0 rfl (lv_at hl 1 rfl) ?_
  refine lv_iload_n hx hb dX2_transpose_64x64_2_1 rfl (lv_at hl 2 rfl) ?_
  refine lv_aload_n hx hb dX2_transpose_64x64_2_2 rfl (lv_at hl 0 rfl) ?_
  refine lv_iload_n hx hb dX2_transpose_64x64_2_3 rfl (lv_at hl 2 rfl) ?_
  refine lv_bipush (v := nI 64) hx hb dX2_transpose_64x64_2_4 (by decide) ?_
  refine va_copyl hx hb (hml.trans hl.1.symm) hown (hts _ q43) (hts _ q45) (hts _ q44) (hts _ q6) hK hP hD hS 1 0 1 0 rfl rfl rfl rfl rfl (by decide) (by decide) (by decide) (by decide) (by decide) (fun _ _ => rfl) (Nat.le_of_ble_eq_true rfl) (by decide +kernel) dX2_transpose_64x64_2_6 (fun H locs hP hD hS => ?_)
  obtain ⟨g, eg⟩ : ∃ y : Nat → Int64, y = va_cpy f h0 (nI 0).toNatClampNeg (nI 0).toNatClampNeg (nI 64).toNatClampNeg := ⟨_, rfl⟩
  rw [← eg] at hP hD
  have hP : va_P D vwCl (bw z r cL cR g f) H := hP
  have hD : va_D A (bw z r cL cR g f) := hD
  have hg : ∀ a, a < 64 → ∀ b, b < 64 → lb (g a) b = (fun a b => lb (f a) b) a b := fun a ha b hb2 => by
    rw [eg, nI_clamp (by omega), nI_clamp (by omega), pk_cpy_in (Nat.zero_le _) (by omega), Nat.zero_add, Nat.sub_zero]
  refine lv_iconst (v := nI 5) hx hb dX2_transpose_64x64_2_9 (by decide) ?_
  refine lv_istore_n (lv' := [(3, .int (nI (5))), (0, .ref z), (1, .ref r), (2, .int (nI (0)))]) hx hb dX2_transpose_64x64_2_10 rfl hl (by decide) rfl (fun ls hl => ?_)
  refine be_d4 hx hb hK hown hts hT (V := fun a b => lb (f a) b) (fun h H locs ls hV hP hD hS hl => ?_) 3 (by omega) g H locs ls hg hP hD hS (lv_sub hl [0, 1, 3] rfl)
  refine be_d1 hx hb hK hown hts hT (V := fun a b => lb (f a) b) (fun h H locs ls hV hP hD hS => ?_) 1 (by omega) h H locs ls hV hP hD hS hl
  exact W.vret hx hb hr (fun t ht hW => ⟨⟨h, rfl, hV, mwE.give hP hK hD ht hW⟩, hS.F ht⟩) hS.2.2 dX2_transpose_64x64_2_434

set_option maxHeartbeats 4000000 in
set_option maxRecDepth 100000 in
/-- transpose_64x64(out, in) -/
theorem met_tr2 (l : Launch) (D : mwG) (z r t : Nat) (cL cR : ClassId) (h0 f : Nat → Int64) (sz : Nat) : Met l yX2_transpose_64x64 (ws_ yX2_transpose_64x64 cX2_transpose_64x64 2 none) ({ frames := 2, cells := 0, slots := 0, locals := 72 })
    (va_Pc [.ref z, .ref r] (fun U => mwC D (bw z r cL cR h0 f) [(cL, .long), (cR, .long)] sz U ∧ mwT (va_A (bw z r cL cR h0 f) sz) t U))
    (va_Qv (fun u : Nat → Int64 => ∀ a, a < 64 → ∀ b, b < 64 → lb (u a) b = lb (f b) a) (fun u T => mwE D (va_A (bw z r cL cR h0 f) sz) (bw z r cL cR u f) [(cL, .long), (cR, .long)] T) (va_A (bw z r cL cR h0 f) sz)) 0 0 (va_A (bw z r cL cR h0 f) sz) := by
  refine Met.ofW (cc := cX2_transpose_64x64) (maxL := 2) (ret := none) (by decide) rfl ?_
  intro p e s m args below meth c s₁ B hml hv
  obtain ⟨rfl, ⟨hsz, hP, hK, hD0⟩, hT⟩ := hv
  have hx := B.exec
  have hb := B.bytes
  have hr := B.returns
  have hts := atoms_spec (ws := ws_ yX2_transpose_64x64 cX2_transpose_64x64 2 none) B.pre
  have hts : ∀ w ∈ lw_all, w.before _ s = true := fun w h => hts w (List.mem_cons_of_mem _ h)
  have hown : s.vm.findClass RX2 = some m.cls := findClass_of_methodNamed B.named
  have hlocks := B.notSynchronized
  subst hsz
  have hD := hD0.self (sz := s.heap.size)
  generalize hAe : va_A (bw z r cL cR h0 f) s.heap.size = A at hD hT ⊢
  have hA : ∀ q : Nat, s.heap.size ≤ q → A q := fun q h => by rw [← hAe]; exact Or.inr h
  have hS : va_S A s.heap s.heap [] := va_S.rf
  have hl := lv_entry ([.ref z, .ref r]) (n := 2) (Nat.le_of_ble_eq_true rfl)
  rw [lg_entry_eq]
  generalize (lg_sl ([.ref z, .ref r]) ++ List.replicate (2 - (lg_sl ([.ref z, .ref r])).length) Slot.unset).toArray = ls at hl ⊢
  have hl : lv_has ls 2 [(0, .ref z), (1, .ref r)] := hl
  refine lv_aload_n hx hb dX2_transpose_64x64_0 rfl (lv_at hl 0 rfl) ?_
  refine lv_aload_n hx hb dX2_transpose_64x64_1 rfl (lv_at hl 1 rfl) ?_
  refine lv_iconst (v := nI 0) hx hb dX2_transpose_64x64_2 (by decide) ?_
  have hFc := mwFree hD hS hA
  refine va_callv (va_runS (As := [.ref z, .ref r, .int (nI 0)]) (rest := []) ⟨hx, hb, hml, hown, hts⟩ (met_tr3 l D z r t cL cR h0 f s.heap.size) (va_cwS 3 hts (lw_S q40 q41 q5 q42) rfl rfl rfl (by decide +kernel) ⟨Nat.le_of_ble_eq_true rfl, Nat.le_of_ble_eq_true rfl⟩) ⟨fun a U g mk q => ⟨q.1, q.2.1.calling g mk a, q.2.2.calling g mk a⟩, fun U hU hW => ⟨rfl, mwC.give hP hK hD hU hW, hT.give hS hFc hU hW⟩⟩ rfl rfl hl.1 rfl (lv_room (Nat.le_of_ble_eq_true rfl)) dX2_transpose_64x64_3 ⟨Nat.zero_le _, Nat.zero_le _⟩) hS (fun q _ h => hFc q h) hFc (fun u t H1 locs ht hvm hw hB hz1 hk1 hS => ?_)
  obtain ⟨hP1, hK1, hD1⟩ := hB
  rw [ht] at hP1
  exact W.vret hx hb hr (fun t ht hW => ⟨⟨u, rfl, hw, mwE.give hP1 hK (hD1.weaken (fun _ _ _ h => hFc _ h)) ht hW⟩, hS.F ht⟩) hS.2.2 dX2_transpose_64x64_6
end
section
/-! BitSquareDesk: the object at x, its rows (64 longs) at r. -/
abbrev deskW (x r : Nat) (cL : ClassId) (f : Nat → Int64) : va_W := [(x, .inr (0, [.ref r])), (r, .inl (cL, 64, .inr (.inl f)))]
theorem mwFree0 {A0 : Nat → Prop} {H0 H : Heap} {locs : List Loc} (hS : va_S A0 H0 H locs) (hA : ∀ q, H0.size ≤ q → A0 q) : ∀ q, va_A [] H.size q → A0 q := by
  intro q h
  rcases h with ⟨k, e, h⟩ | h
  · simp at h
  · exact hA q (Nat.le_trans hS.1 h)

set_option maxHeartbeats 4000000 in
set_option maxRecDepth 100000 in
/-- of(high, low) -/
theorem met0_of (l : Launch) (D : mwG) (hi lo : Int32) (sz : Nat) : Met l yX0_of (ws_ yX0_of cX0_of 2 (some .long)) ({ frames := 0, cells := 0, slots := 0, locals := 0 })
    (va_Pc [.int (hi), .int (lo)] (fun U => U.heap.size = sz))
    (va_Ql (fun (r : Int64) (_ : Unit) => r = ofV hi lo) (fun _ _ => True) (va_A [] sz)) 0 0 (va_A [] sz) := by
  refine Met.ofW (cc := cX0_of) (maxL := 2) (ret := (some .long)) (by decide) rfl ?_
  intro p e s m args below meth c s₁ B hml hv
  obtain ⟨rfl, hsz⟩ := hv
  have hx := B.exec
  have hb := B.bytes
  have hr := B.returns
  have hts := atoms_spec (ws := ws_ yX0_of cX0_of 2 (some .long)) B.pre
  have hts : ∀ w ∈ lw_all, w.before _ s = true := fun w h => hts w (List.mem_cons_of_mem _ h)
  have hown : s.vm.findClass RX0 = some m.cls := findClass_of_methodNamed B.named
  have hlocks := B.notSynchronized
  subst hsz
  generalize hAe : va_A [] s.heap.size = A
  have hA : ∀ q : Nat, s.heap.size ≤ q → A q := fun q h => by rw [← hAe]; exact Or.inr h
  have hS : va_S A s.heap s.heap [] := va_S.rf
  have hl := lv_entry ([.int (hi), .int (lo)]) (n := 2) (Nat.le_of_ble_eq_true rfl)
  rw [lg_entry_eq]
  generalize (lg_sl ([.int (hi), .int (lo)]) ++ List.replicate (2 - (lg_sl ([.int (hi), .int (lo)])).length) Slot.unset).toArray = ls at hl ⊢
  have hl : lv_has ls 2 [(0, .int (hi)), (1, .int (lo))] := hl
  refine lv_iload_n hx hb dX0_of_0 rfl (lv_at hl 0 rfl) ?_
  refine lv_i2l (v := hi.toInt64) hx hb dX0_of_1 rfl ?_
  refine lv_bipush (v := nI 32) hx hb dX0_of_2 (by decide) ?_
  refine lv_lshl (v := jL hi.toInt64 32) hx hb dX0_of_4 rfl ?_
  refine lv_iload_n hx hb dX0_of_5 rfl (lv_at hl 1 rfl) ?_
  refine lv_i2l (v := lo.toInt64) hx hb dX0_of_6 rfl ?_
  refine lv_ldc2 hx hb hown (hts _ q27) dX0_of_7 ?_
  refine lv_land hx hb dX0_of_10 ?_
  refine lv_lor hx hb dX0_of_11 ?_
  exact W.lret (v := ofV hi lo) hx hb hr (fun t ht hW => ⟨⟨ofV hi lo, (), rfl, rfl, trivial⟩, hS.F ht⟩) hS.2.2 dX0_of_12

set_option maxHeartbeats 4000000 in
set_option maxRecDepth 100000 in
/-- BitSquareDesk(): 64 rows of zeros -/
theorem met0_init (l : Launch) (D : mwG) (x : Nat) (sz : Nat) : Met l yX0_init (ws_ yX0_init cX0_init 1 none) ({ frames := 1, cells := 1, slots := 64, locals := 12 })
    (va_Pc [.ref x] (fun U => mwC D [(x, .inr (0, [.null]))] [] sz U))
    (va_Qv (fun _ : Nat × ClassId => True) (fun u T => mwE D (va_A [(x, .inr (0, [.null]))] sz) (deskW x u.1 u.2 (fun _ => 0)) [(u.2, .long)] T) (va_A [(x, .inr (0, [.null]))] sz)) 1 64 (va_A [(x, .inr (0, [.null]))] sz) := by
  refine Met.ofW (cc := cX0_init) (maxL := 1) (ret := none) (by decide) rfl ?_
  intro p e s m args below meth c s₁ B hml hv
  obtain ⟨rfl, hsz, hP, hK, hD0⟩ := hv
  have hx := B.exec
  have hb := B.bytes
  have hr := B.returns
  have hts := atoms_spec (ws := ws_ yX0_init cX0_init 1 none) B.pre
  have hts : ∀ w ∈ lw_all, w.before _ s = true := fun w h => hts w (List.mem_cons_of_mem _ h)
  have hown : s.vm.findClass RX0 = some m.cls := findClass_of_methodNamed B.named
  have hlocks := B.notSynchronized
  subst hsz
  have hD := hD0.self (sz := s.heap.size)
  generalize hAe : va_A [(x, .inr (0, [.null]))] s.heap.size = A at hD ⊢
  have hA : ∀ q : Nat, s.heap.size ≤ q → A q := fun q h => by rw [← hAe]; exact Or.inr h
  have hS : va_S A s.heap s.heap [] := va_S.rf
  have hl := lv_entry ([.ref x]) (n := 1) (Nat.le_of_ble_eq_true rfl)
  rw [lg_entry_eq]
  generalize (lg_sl ([.ref x]) ++ List.replicate (1 - (lg_sl ([.ref x])).length) Slot.unset).toArray = ls at hl ⊢
  have hl : lv_has ls 1 [(0, .ref x)] := hl
  refine lv_aload_n hx hb dX0_init_0 rfl (lv_at hl 0 rfl) ?_
  refine W.objInit hx hb hown (hts _ q12) (hts _ q13) (hts _ q14) rfl (by rw [hml]; exact hl.1) rfl dX0_init_1 (Nat.le_of_ble_eq_true rfl) (Nat.le_of_ble_eq_true rfl) ?_
  refine W.eq (g2 := F0 m 4 ls []) rfl ?_
  refine lv_aload_n hx hb dX0_init_4 rfl (lv_at hl 0 rfl) ?_
  refine lv_bipush (v := nI 64) hx hb dX0_init_5 (by decide) ?_
  refine va_newa (atype := .long) (ty := .long) (a0 := (64, .inr (.inl (fun _ => 0)))) hx hb (hts _ q19) rfl hK hP hD hS hA (fun _ => rfl) (by decide) (by decide) (Nat.le_of_ble_eq_true rfl) (Nat.le_of_ble_eq_true rfl) (Nat.le_of_ble_eq_true rfl) dX0_init_7 (fun r cL H hK hP hD hS => ?_)
  have hP : va_P D vwCl [(x, .inr (0, [.null])), (r, .inl (cL, 64, .inr (.inl (fun _ => 0))))] H := hP
  have hD : va_D A [(x, .inr (0, [.null])), (r, .inl (cL, 64, .inr (.inl (fun _ => 0))))] := hD
  refine va_put (D := D) (ci := 0) (v := .ref r) (ty := .array .long) (C := RX0) (T := TX0) (N := 1) hx hb hts in_X0 tyX0 tyX0_ok nmX0 hown hK hP hD hS 0 rfl rfl 0 (by decide) (hts _ q15) (fun _ h9 => h9) rfl (by decide +kernel) rfl rfl (Nat.le_of_ble_eq_true rfl) dX0_init_9 (fun H locs hP hD hS => ?_)
  refine W.widen (k := 1) (n := 64) (Nat.le_of_ble_eq_true rfl) (Nat.le_of_ble_eq_true rfl) ?_
  exact W.vret hx hb hr (fun t ht hW => ⟨⟨(r, cL), rfl, trivial, mwE.give hP hK hD ht hW⟩, hS.F ht⟩) hS.2.2 dX0_init_12

set_option maxHeartbeats 4000000 in
set_option maxRecDepth 100000 in
/-- set(i, high, low) -/
theorem met0_set (l : Launch) (D : mwG) (x r : Nat) (cL : ClassId) (f : Nat → Int64) (i hi lo : Int32) (sz : Nat) : Met l yX0_set (ws_ yX0_set cX0_set 4 none) ({ frames := 1, cells := 0, slots := 0, locals := 21 })
    (va_Pc [.ref x, .int (i), .int (hi), .int (lo)] (fun U => mwC D (deskW x r cL f) [(cL, .long)] sz U))
    (va_Qv (fun u : Nat → Int64 => u = vp_updL f (ix i) (ofV hi lo)) (fun u T => mwE D (va_A (deskW x r cL f) sz) (deskW x r cL u) [(cL, .long)] T) (va_A (deskW x r cL f) sz)) 0 0 (va_A (deskW x r cL f) sz) := by
  refine Met.ofW (cc := cX0_set) (maxL := 4) (ret := none) (by decide) rfl ?_
  intro p e s m args below meth c s₁ B hml hv
  obtain ⟨rfl, hsz, hP, hK, hD0⟩ := hv
  have hx := B.exec
  have hb := B.bytes
  have hr := B.returns
  have hts := atoms_spec (ws := ws_ yX0_set cX0_set 4 none) B.pre
  have hts : ∀ w ∈ lw_all, w.before _ s = true := fun w h => hts w (List.mem_cons_of_mem _ h)
  have hown : s.vm.findClass RX0 = some m.cls := findClass_of_methodNamed B.named
  have hlocks := B.notSynchronized
  subst hsz
  have hD := hD0.self (sz := s.heap.size)
  generalize hAe : va_A (deskW x r cL f) s.heap.size = A at hD ⊢
  have hA : ∀ q : Nat, s.heap.size ≤ q → A q := fun q h => by rw [← hAe]; exact Or.inr h
  have hS : va_S A s.heap s.heap [] := va_S.rf
  have hl := lv_entry ([.ref x, .int (i), .int (hi), .int (lo)]) (n := 4) (Nat.le_of_ble_eq_true rfl)
  rw [lg_entry_eq]
  generalize (lg_sl ([.ref x, .int (i), .int (hi), .int (lo)]) ++ List.replicate (4 - (lg_sl ([.ref x, .int (i), .int (hi), .int (lo)])).length) Slot.unset).toArray = ls at hl ⊢
  have hl : lv_has ls 4 [(0, .ref x), (1, .int (i)), (2, .int (hi)), (3, .int (lo))] := hl
  refine lv_aload_n hx hb dX0_set_0 rfl (lv_at hl 0 rfl) ?_
  refine va_get (D := D) (ci := 0) (v := .ref r) (C := RX0) (T := TX0) (N := 1) hx hb hts in_X0 hown hK hP 0 rfl rfl 0 (by decide) (hts _ q15) (fun _ h9 => h9) rfl dX0_set_1 ?_
  refine lv_iload_n hx hb dX0_set_4 rfl (lv_at hl 1 rfl) ?_
  refine lv_bipush (v := nI 63) hx hb dX0_set_5 (by decide) ?_
  refine lv_iand hx hb dX0_set_7 ?_
  rw [show (nI 63 : Int32) = 63 from rfl, ix_and]
  refine lv_iload_n hx hb dX0_set_8 rfl (lv_at hl 2 rfl) ?_
  refine lv_iload_n hx hb dX0_set_9 rfl (lv_at hl 3 rfl) ?_
  have hF0 := mwFree0 hS hA
  refine va_calll (va_runS (As := [.int hi, .int lo]) (rest := [.int (nI (ix i)), .ref r]) ⟨hx, hb, hml, hown, hts⟩ (met0_of l D hi lo s.heap.size) (va_cwS 2 hts (lw_S q24 q25 q3 q26) rfl rfl rfl (by decide +kernel) ⟨(Nat.le_of_ble_eq_true rfl), (Nat.le_of_ble_eq_true rfl)⟩) ⟨fun a U g mk q => ⟨q.1, q.2⟩, fun U hU hW => ⟨rfl, congrArg Array.size hU⟩⟩ rfl rfl hl.1 rfl (lv_room (Nat.le_of_ble_eq_true rfl)) dX0_set_10 ⟨Nat.zero_le _, Nat.zero_le _⟩) hS (fun q _ h => hF0 q h) hF0 (fun v0 u t H locs ht hvm hw hB hz1 hk1 hS => ?_)
  have hP := mwKeep0 hP hk1
  have hw : v0 = ofV hi lo := hw
  subst hw
  refine wm_last hx hb hK hP hD hS 1 0 rfl rfl (ix_lt i) (Nat.le_of_ble_eq_true rfl) dX0_set_13 (fun g H locs e1 hP hD hS => ?_)
  exact W.vret hx hb hr (fun t ht hW => ⟨⟨g, rfl, e1, mwE.give hP hK hD ht hW⟩, hS.F ht⟩) hS.2.2 dX0_set_14

set_option maxHeartbeats 4000000 in
set_option maxRecDepth 100000 in
theorem sp0_loop {p : Program} {l : Launch} {e : Env} {R : Room} {s : State} {m : MethodId} {args : Array Value} {below : List Frame} {meth : Method} {c : Code} {Q : State → Prop} {D : mwG} {A : Nat → Prop} {cells slots : Nat} {x r : Nat} {cL : ClassId} {v0 : Int64} {st : Int32} (hx : p.tables.exec = Jvm.exec) (hb : c.code = cX0_spread) (hown : s.vm.findClass RX0 = some m.cls) (hts : ∀ w ∈ lw_all, w.before args s = true) (hK : va_K D vwCl [(cL, .long)] s)
    (kend : ∀ (g : Nat → Int64) (H : Heap) (locs : List Loc) (ls : Array Slot), (∀ a, a < 64 → g a = spV v0 st.toInt64 a) → va_P D vwCl (deskW x r cL g) H → va_D A (deskW x r cL g) → va_S A s.heap H locs → W p l e R s m args below meth c H locs cells slots Q (F0 m 43 ls [])) :
    ∀ (n k : Nat), k ≤ 64 → 64 < k + n → ∀ (g : Nat → Int64) (H : Heap) (locs : List Loc) (ls : Array Slot), (∀ a, a < k → g a = spV v0 st.toInt64 a) → va_P D vwCl (deskW x r cL g) H → va_D A (deskW x r cL g) → va_S A s.heap H locs → lv_has ls 7 [(6, .int (nI k)), (4, .long (spV v0 st.toInt64 k)), (0, .ref x), (3, .int st)] → W p l e R s m args below meth c H locs cells slots Q (F0 m 10 ls []) := by
  intro n
  induction n with
  | zero =>
    intro k h1 h2
    omega
  | succ n ih =>
    intro k hk hn g H locs ls hg hP hD hS hl
    refine lv_iload hx hb dX0_spread_10 (lv_at hl 0 rfl) ?_
    refine lv_bipush (v := nI 64) hx hb dX0_spread_12 (by decide) ?_
    refine wm_icge (tgt := 43) hx hb (by omega) (by omega) dX0_spread_14 (by decide) (fun hc => ?_) (fun hc => ?_)
    · exact kend g H locs ls (fun a ha => hg a (by omega)) hP hD hS
    · skip
      refine lv_aload_n hx hb dX0_spread_17 rfl (lv_at hl 2 rfl) ?_
      refine va_get (D := D) (ci := 0) (v := .ref r) (C := RX0) (T := TX0) (N := 1) hx hb hts in_X0 hown hK hP 0 rfl rfl 0 (by decide) (hts _ q15) (fun _ h9 => h9) rfl dX0_spread_18 ?_
      refine lv_iload hx hb dX0_spread_21 (lv_at hl 0 rfl) ?_
      refine lv_lload hx hb dX0_spread_23 (lv_at hl 1 rfl) ?_
      refine wm_last hx hb hK hP hD hS 1 0 rfl rfl hc (Nat.le_of_ble_eq_true rfl) dX0_spread_25 (fun g1 H locs e1 hP hD hS => ?_)
      have hP : va_P D vwCl (deskW x r cL g1) H := hP
      have hD : va_D A (deskW x r cL g1) := hD
      refine lv_lload hx hb dX0_spread_26 (lv_at hl 1 rfl) ?_
      refine lv_ldc2 hx hb hown (hts _ q32) dX0_spread_28 ?_
      refine lv_lmul hx hb dX0_spread_31 ?_
      refine lv_iload_n hx hb dX0_spread_32 rfl (lv_at hl 3 rfl) ?_
      refine lv_i2l (v := st.toInt64) hx hb dX0_spread_33 rfl ?_
      refine lv_ladd hx hb dX0_spread_34 ?_
      refine lv_lstore (lv' := [(4, .long (spV v0 st.toInt64 (k + 1))), (6, .int (nI (k))), (0, .ref x), (3, .int (st))]) hx hb dX0_spread_35 hl (by decide) rfl (fun ls hl => ?_)
      refine lv_iinc (v := nI (k + 1)) (lv' := [(6, .int (nI (k + 1))), (4, .long (spV v0 st.toInt64 (k + 1))), (0, .ref x), (3, .int (st))]) hx hb dX0_spread_37 hl (k := 1) rfl (nI_inc k 1 _ (by decide)) (by decide) rfl (fun ls hl => ?_)
      refine lv_goto (tgt := 10) hx hb dX0_spread_40 (by decide) ?_
      refine ih (k + 1) (by omega) (by omega) g1 H locs ls (fun a ha => ?_) hP hD hS (lv_sub hl [0, 1, 2, 3] rfl)
      subst e1
      unfold vp_updL
      by_cases h : a = k
      · rw [if_pos h, h]
      · rw [if_neg h]
        exact hg a (by omega)

set_option maxHeartbeats 4000000 in
set_option maxRecDepth 100000 in
/-- spread(high, low, step) -/
theorem met0_spread (l : Launch) (D : mwG) (x r : Nat) (cL : ClassId) (f : Nat → Int64) (hi lo st : Int32) (sz : Nat) : Met l yX0_spread (ws_ yX0_spread cX0_spread 7 none) ({ frames := 1, cells := 0, slots := 0, locals := 21 })
    (va_Pc [.ref x, .int (hi), .int (lo), .int (st)] (fun U => mwC D (deskW x r cL f) [(cL, .long)] sz U))
    (va_Qv (fun u : Nat → Int64 => ∀ a, a < 64 → u a = spV (ofV hi lo) st.toInt64 a) (fun u T => mwE D (va_A (deskW x r cL f) sz) (deskW x r cL u) [(cL, .long)] T) (va_A (deskW x r cL f) sz)) 0 0 (va_A (deskW x r cL f) sz) := by
  refine Met.ofW (cc := cX0_spread) (maxL := 7) (ret := none) (by decide) rfl ?_
  intro p e s m args below meth c s₁ B hml hv
  obtain ⟨rfl, hsz, hP, hK, hD0⟩ := hv
  have hx := B.exec
  have hb := B.bytes
  have hr := B.returns
  have hts := atoms_spec (ws := ws_ yX0_spread cX0_spread 7 none) B.pre
  have hts : ∀ w ∈ lw_all, w.before _ s = true := fun w h => hts w (List.mem_cons_of_mem _ h)
  have hown : s.vm.findClass RX0 = some m.cls := findClass_of_methodNamed B.named
  have hlocks := B.notSynchronized
  subst hsz
  have hD := hD0.self (sz := s.heap.size)
  generalize hAe : va_A (deskW x r cL f) s.heap.size = A at hD ⊢
  have hA : ∀ q : Nat, s.heap.size ≤ q → A q := fun q h => by rw [← hAe]; exact Or.inr h
  have hS : va_S A s.heap s.heap [] := va_S.rf
  have hl := lv_entry ([.ref x, .int (hi), .int (lo), .int (st)]) (n := 7) (Nat.le_of_ble_eq_true rfl)
  rw [lg_entry_eq]
  generalize (lg_sl ([.ref x, .int (hi), .int (lo), .int (st)]) ++ List.replicate (7 - (lg_sl ([.ref x, .int (hi), .int (lo), .int (st)])).length) Slot.unset).toArray = ls at hl ⊢
  have hl : lv_has ls 7 [(0, .ref x), (1, .int (hi)), (2, .int (lo)), (3, .int (st))] := hl
  refine lv_iload_n hx hb dX0_spread_0 rfl (lv_at hl 1 rfl) ?_
  refine lv_iload_n hx hb dX0_spread_1 rfl (lv_at hl 2 rfl) ?_
  have hF0 := mwFree0 hS hA
  refine va_calll (va_runS (As := [.int hi, .int lo]) (rest := []) ⟨hx, hb, hml, hown, hts⟩ (met0_of l D hi lo s.heap.size) (va_cwS 2 hts (lw_S q24 q25 q3 q26) rfl rfl rfl (by decide +kernel) ⟨(Nat.le_of_ble_eq_true rfl), (Nat.le_of_ble_eq_true rfl)⟩) ⟨fun a U g mk q => ⟨q.1, q.2⟩, fun U hU hW => ⟨rfl, congrArg Array.size hU⟩⟩ rfl rfl hl.1 rfl (lv_room (Nat.le_of_ble_eq_true rfl)) dX0_spread_2 ⟨Nat.zero_le _, Nat.zero_le _⟩) hS (fun q _ h => hF0 q h) hF0 (fun v0 u t H locs ht hvm hw hB hz1 hk1 hS => ?_)
  have hP := mwKeep0 hP hk1
  have hw : v0 = ofV hi lo := hw
  subst hw
  refine lv_lstore (lv' := [(4, .long (ofV hi lo)), (0, .ref x), (1, .int (hi)), (2, .int (lo)), (3, .int (st))]) hx hb dX0_spread_5 hl (by decide) rfl (fun ls hl => ?_)
  refine lv_iconst (v := nI 0) hx hb dX0_spread_7 (by decide) ?_
  refine lv_istore (lv' := [(6, .int (nI (0))), (4, .long (ofV hi lo)), (0, .ref x), (1, .int (hi)), (2, .int (lo)), (3, .int (st))]) hx hb dX0_spread_8 hl (by decide) rfl (fun ls hl => ?_)
  exact sp0_loop (v0 := ofV hi lo) hx hb hown hts hK (fun g H locs ls hg hP hD hS => W.vret hx hb hr (fun t ht hW => ⟨⟨g, rfl, hg, mwE.give hP hK hD ht hW⟩, hS.F ht⟩) hS.2.2 dX0_spread_43) 65 0 (Nat.zero_le _) (by omega) f H locs ls (fun a ha => absurd ha (Nat.not_lt_zero a)) hP hD hS (lv_sub hl [0, 1, 2, 5] rfl)

set_option maxHeartbeats 4000000 in
set_option maxRecDepth 100000 in
/-- turn(): the rows are a new array, the transposition -/
theorem met0_turn (l : Launch) (D : mwG) (x r : Nat) (cL : ClassId) (f : Nat → Int64) (tb : Nat) (sz : Nat) : Met l yX0_turn (ws_ yX0_turn cX0_turn 2 none) ({ frames := 3, cells := 1, slots := 64, locals := 93 })
    (va_Pc [.ref x] (fun U => mwC D (deskW x r cL f) [(cL, .long)] sz U ∧ mwT (va_A (deskW x r cL f) sz) tb U))
    (va_Qv (fun u : (Nat → Int64) × Nat × ClassId => ∀ a, a < 64 → ∀ b, b < 64 → lb (u.1 a) b = lb (f b) a) (fun u T => mwE D (va_A (deskW x r cL f) sz) (deskW x u.2.1 u.2.2 u.1) [(u.2.2, .long)] T) (va_A (deskW x r cL f) sz)) 1 64 (va_A (deskW x r cL f) sz) := by
  refine Met.ofW (cc := cX0_turn) (maxL := 2) (ret := none) (by decide) rfl ?_
  intro p e s m args below meth c s₁ B hml hv
  obtain ⟨rfl, ⟨hsz, hP, hK, hD0⟩, hT⟩ := hv
  have hx := B.exec
  have hb := B.bytes
  have hr := B.returns
  have hts := atoms_spec (ws := ws_ yX0_turn cX0_turn 2 none) B.pre
  have hts : ∀ w ∈ lw_all, w.before _ s = true := fun w h => hts w (List.mem_cons_of_mem _ h)
  have hown : s.vm.findClass RX0 = some m.cls := findClass_of_methodNamed B.named
  have hlocks := B.notSynchronized
  subst hsz
  have hD := hD0.self (sz := s.heap.size)
  generalize hAe : va_A (deskW x r cL f) s.heap.size = A at hD hT ⊢
  have hA : ∀ q : Nat, s.heap.size ≤ q → A q := fun q h => by rw [← hAe]; exact Or.inr h
  have hS : va_S A s.heap s.heap [] := va_S.rf
  have hl := lv_entry ([.ref x]) (n := 2) (Nat.le_of_ble_eq_true rfl)
  rw [lg_entry_eq]
  generalize (lg_sl ([.ref x]) ++ List.replicate (2 - (lg_sl ([.ref x])).length) Slot.unset).toArray = ls at hl ⊢
  have hl : lv_has ls 2 [(0, .ref x)] := hl
  refine lv_bipush (v := nI 64) hx hb dX0_turn_0 (by decide) ?_
  refine va_newa (atype := .long) (ty := .long) (a0 := (64, .inr (.inl (fun _ => 0)))) hx hb (hts _ q19) rfl hK hP hD hS hA (fun _ => rfl) (by decide) (by decide) (Nat.le_of_ble_eq_true rfl) (Nat.le_of_ble_eq_true rfl) (Nat.le_of_ble_eq_true rfl) dX0_turn_2 (fun z cz H hK hP hD hS => ?_)
  have hP : va_P D vwCl [(x, .inr (0, [.ref r])), (r, .inl (cL, 64, .inr (.inl f))), (z, .inl (cz, 64, .inr (.inl (fun _ => 0))))] H := hP
  have hD : va_D A [(x, .inr (0, [.ref r])), (r, .inl (cL, 64, .inr (.inl f))), (z, .inl (cz, 64, .inr (.inl (fun _ => 0))))] := hD
  have hK : va_K D vwCl [(cL, .long), (cz, .long)] s := hK
  refine lv_astore_n (lv' := [(1, .ref z), (0, .ref x)]) hx hb dX0_turn_4 rfl hl (by decide) rfl (fun ls hl => ?_)
  refine lv_aload_n hx hb dX0_turn_5 rfl (lv_at hl 0 rfl) ?_
  refine lv_aload_n hx hb dX0_turn_6 rfl (lv_at hl 1 rfl) ?_
  refine va_get (D := D) (ci := 0) (v := .ref r) (C := RX0) (T := TX0) (N := 1) hx hb hts in_X0 hown hK hP 0 rfl rfl 0 (by decide) (hts _ q15) (fun _ h9 => h9) rfl dX0_turn_7 ?_
  have hPc := hP.sub (ws' := bw z r cz cL (fun _ => 0) f) [2, 1] rfl
  have hDc := hD.sub (ws' := bw z r cz cL (fun _ => 0) f) [2, 1] (by decide) rfl
  have hKc := hK.sub (tys' := [(cz, .long), (cL, .long)]) [1, 0] rfl
  have hFc := va_free (wc := bw z r cz cL (fun _ => 0) f) hD hS hA [2, 1] rfl
  refine va_callv (va_runS (As := [.ref z, .ref r]) (rest := []) ⟨hx, hb, hml, hown, hts⟩ (met_tr2 l D z r tb cz cL (fun _ => 0) f H.size) (va_cwS 2 hts (lw_S q37 q38 q5 q39) rfl rfl rfl (by decide +kernel) ⟨(Nat.le_of_ble_eq_true rfl), (Nat.le_of_ble_eq_true rfl)⟩) ⟨fun a U g mk q => ⟨q.1, q.2.1.calling g mk a, q.2.2.calling g mk a⟩, fun U hU hW => ⟨rfl, mwC.give hPc hKc hDc hU hW, hT.give hS hFc hU hW⟩⟩ rfl rfl hl.1 rfl (lv_room (Nat.le_of_ble_eq_true rfl)) dX0_turn_10 ⟨(Nat.le_of_ble_eq_true rfl), (Nat.le_of_ble_eq_true rfl)⟩) hS (fun q _ h => hFc q h) hFc (fun u t H1 locs ht hvm hw hB hz1 hk1 hS => ?_)
  obtain ⟨hP1, hK1, hD1⟩ := hB
  rw [ht] at hP1
  obtain ⟨hP, hD⟩ := va_join (wr := [(x, .inr (0, [.ref r]))]) (w1 := bw z r cz cL u f) hP hD [2, 1] [0] rfl rfl (by decide) (by decide) hk1 hFc hP1 hD1
  have hP : va_P D vwCl [(x, .inr (0, [.ref r])), (z, .inl (cz, 64, .inr (.inl u))), (r, .inl (cL, 64, .inr (.inl f)))] H1 := hP
  have hD : va_D A [(x, .inr (0, [.ref r])), (z, .inl (cz, 64, .inr (.inl u))), (r, .inl (cL, 64, .inr (.inl f)))] := hD
  refine lv_aload_n hx hb dX0_turn_13 rfl (lv_at hl 1 rfl) ?_
  refine lv_aload_n hx hb dX0_turn_14 rfl (lv_at hl 0 rfl) ?_
  refine va_put (D := D) (ci := 0) (v := .ref z) (ty := .array .long) (C := RX0) (T := TX0) (N := 1) hx hb hts in_X0 tyX0 tyX0_ok nmX0 hown hK hP hD hS 0 rfl rfl 0 (by decide) (hts _ q15) (fun _ h9 => h9) rfl (by decide +kernel) rfl rfl (Nat.le_of_ble_eq_true rfl) dX0_turn_15 (fun H locs hP hD hS => ?_)
  have hP9 := hP.sub (ws' := deskW x z cz u) [0, 1] rfl
  have hD9 := hD.sub (ws' := deskW x z cz u) [0, 1] (by decide) rfl
  have hK9 := hK.sub (tys' := [(cz, .long)]) [1] rfl
  refine W.widen (k := 1) (n := 64) (Nat.le_of_ble_eq_true rfl) (Nat.le_of_ble_eq_true rfl) ?_
  exact W.vret hx hb hr (fun t ht hW => ⟨⟨(u, z, cz), rfl, hw, mwE.give hP9 hK9 hD9 ht hW⟩, hS.F ht⟩) hS.2.2 dX0_turn_18

set_option maxHeartbeats 4000000 in
set_option maxRecDepth 100000 in
/-- get(i) -/
theorem met0_get (l : Launch) (D : mwG) (x r : Nat) (cL : ClassId) (f : Nat → Int64) (i : Int32) (sz : Nat) : Met l yX0_get (ws_ yX0_get cX0_get 2 (some .long)) ({ frames := 0, cells := 0, slots := 0, locals := 0 })
    (va_Pc [.ref x, .int (i)] (fun U => mwC D (deskW x r cL f) [(cL, .long)] sz U))
    (va_Ql (fun (v : Int64) (_ : Unit) => v = f (ix i)) (fun _ T => mwE D (va_A (deskW x r cL f) sz) (deskW x r cL f) [(cL, .long)] T) (va_A (deskW x r cL f) sz)) 0 0 (va_A (deskW x r cL f) sz) := by
  refine Met.ofW (cc := cX0_get) (maxL := 2) (ret := (some .long)) (by decide) rfl ?_
  intro p e s m args below meth c s₁ B hml hv
  obtain ⟨rfl, hsz, hP, hK, hD0⟩ := hv
  have hx := B.exec
  have hb := B.bytes
  have hr := B.returns
  have hts := atoms_spec (ws := ws_ yX0_get cX0_get 2 (some .long)) B.pre
  have hts : ∀ w ∈ lw_all, w.before _ s = true := fun w h => hts w (List.mem_cons_of_mem _ h)
  have hown : s.vm.findClass RX0 = some m.cls := findClass_of_methodNamed B.named
  have hlocks := B.notSynchronized
  subst hsz
  have hD := hD0.self (sz := s.heap.size)
  generalize hAe : va_A (deskW x r cL f) s.heap.size = A at hD ⊢
  have hA : ∀ q : Nat, s.heap.size ≤ q → A q := fun q h => by rw [← hAe]; exact Or.inr h
  have hS : va_S A s.heap s.heap [] := va_S.rf
  have hl := lv_entry ([.ref x, .int (i)]) (n := 2) (Nat.le_of_ble_eq_true rfl)
  rw [lg_entry_eq]
  generalize (lg_sl ([.ref x, .int (i)]) ++ List.replicate (2 - (lg_sl ([.ref x, .int (i)])).length) Slot.unset).toArray = ls at hl ⊢
  have hl : lv_has ls 2 [(0, .ref x), (1, .int (i))] := hl
  refine lv_aload_n hx hb dX0_get_0 rfl (lv_at hl 0 rfl) ?_
  refine va_get (D := D) (ci := 0) (v := .ref r) (C := RX0) (T := TX0) (N := 1) hx hb hts in_X0 hown hK hP 0 rfl rfl 0 (by decide) (hts _ q15) (fun _ h9 => h9) rfl dX0_get_1 ?_
  refine lv_iload_n hx hb dX0_get_4 rfl (lv_at hl 1 rfl) ?_
  refine lv_bipush (v := nI 63) hx hb dX0_get_5 (by decide) ?_
  refine lv_iand hx hb dX0_get_7 ?_
  rw [show (nI 63 : Int32) = 63 from rfl, ix_and]
  refine wm_lald hx hb hK hP 1 0 rfl rfl (ix_lt i) (Nat.le_of_ble_eq_true rfl) dX0_get_8 ?_
  exact W.lret (v := f (ix i)) hx hb hr (fun t ht hW => ⟨⟨f (ix i), (), rfl, rfl, mwE.give hP hK hD ht hW⟩, hS.F ht⟩) hS.2.2 dX0_get_9

set_option maxHeartbeats 4000000 in
set_option maxRecDepth 100000 in
/-- bit(i, j) -/
theorem met0_bit (l : Launch) (D : mwG) (x r : Nat) (cL : ClassId) (f : Nat → Int64) (i j : Int32) (sz : Nat) : Met l yX0_bit (ws_ yX0_bit cX0_bit 3 (some .boolean)) ({ frames := 0, cells := 0, slots := 0, locals := 0 })
    (va_Pc [.ref x, .int (i), .int (j)] (fun U => mwC D (deskW x r cL f) [(cL, .long)] sz U))
    (va_Qi (fun (v : Int32) (_ : Unit) => v = bI (lb (f (ix i)) (ix j))) (fun _ T => mwE D (va_A (deskW x r cL f) sz) (deskW x r cL f) [(cL, .long)] T) (va_A (deskW x r cL f) sz)) 0 0 (va_A (deskW x r cL f) sz) := by
  refine Met.ofW (cc := cX0_bit) (maxL := 3) (ret := (some .boolean)) (by decide) rfl ?_
  intro p e s m args below meth c s₁ B hml hv
  obtain ⟨rfl, hsz, hP, hK, hD0⟩ := hv
  have hx := B.exec
  have hb := B.bytes
  have hr := B.returns
  have hts := atoms_spec (ws := ws_ yX0_bit cX0_bit 3 (some .boolean)) B.pre
  have hts : ∀ w ∈ lw_all, w.before _ s = true := fun w h => hts w (List.mem_cons_of_mem _ h)
  have hown : s.vm.findClass RX0 = some m.cls := findClass_of_methodNamed B.named
  have hlocks := B.notSynchronized
  subst hsz
  have hD := hD0.self (sz := s.heap.size)
  generalize hAe : va_A (deskW x r cL f) s.heap.size = A at hD ⊢
  have hA : ∀ q : Nat, s.heap.size ≤ q → A q := fun q h => by rw [← hAe]; exact Or.inr h
  have hS : va_S A s.heap s.heap [] := va_S.rf
  have hl := lv_entry ([.ref x, .int (i), .int (j)]) (n := 3) (Nat.le_of_ble_eq_true rfl)
  rw [lg_entry_eq]
  generalize (lg_sl ([.ref x, .int (i), .int (j)]) ++ List.replicate (3 - (lg_sl ([.ref x, .int (i), .int (j)])).length) Slot.unset).toArray = ls at hl ⊢
  have hl : lv_has ls 3 [(0, .ref x), (1, .int (i)), (2, .int (j))] := hl
  refine lv_aload_n hx hb dX0_bit_0 rfl (lv_at hl 0 rfl) ?_
  refine va_get (D := D) (ci := 0) (v := .ref r) (C := RX0) (T := TX0) (N := 1) hx hb hts in_X0 hown hK hP 0 rfl rfl 0 (by decide) (hts _ q15) (fun _ h9 => h9) rfl dX0_bit_1 ?_
  refine lv_iload_n hx hb dX0_bit_4 rfl (lv_at hl 1 rfl) ?_
  refine lv_bipush (v := nI 63) hx hb dX0_bit_5 (by decide) ?_
  refine lv_iand hx hb dX0_bit_7 ?_
  rw [show (nI 63 : Int32) = 63 from rfl, ix_and]
  refine wm_lald hx hb hK hP 1 0 rfl rfl (ix_lt i) (Nat.le_of_ble_eq_true rfl) dX0_bit_8 ?_
  refine lv_iload_n hx hb dX0_bit_9 rfl (lv_at hl 2 rfl) ?_
  refine lv_bipush (v := nI 63) hx hb dX0_bit_10 (by decide) ?_
  refine lv_iand hx hb dX0_bit_12 ?_
  rw [show (nI 63 : Int32) = 63 from rfl, ix_and]
  refine lv_lushr (v := jU (f (ix i)) (ix j)) hx hb dX0_bit_13 rfl ?_
  refine lv_lconst (v := 1) hx hb dX0_bit_14 (by decide) ?_
  refine lv_land hx hb dX0_bit_15 ?_
  refine lv_lconst (v := 1) hx hb dX0_bit_16 (by decide) ?_
  refine W.lcmp hx hb dX0_bit_17 ?_
  have hbit : lg_cmp (jU (f (ix i)) (ix j) &&& 1) 1 = 0 ↔ lb (f (ix i)) (ix j) = true := by
    rw [lg_cmp_eq, lb_odd, lb_jU _ (ix_lt j), Nat.add_zero]
  refine lv_if_ne (tgt := 25) hx hb dX0_bit_18 (by decide) (fun hc => ?_) (fun hc => ?_)
  · have hv : lb (f (ix i)) (ix j) = false := by
      cases h : lb (f (ix i)) (ix j) with
      | true => exact absurd (hbit.mpr h) hc
      | false => rfl
    refine lv_iconst (v := 0) hx hb dX0_bit_25 (by decide) ?_
    exact W.zret (v := 0) hx hb hr rfl (fun t ht hW => ⟨⟨0, (), rfl, by rw [hv]; rfl, mwE.give hP hK hD ht hW⟩, hS.F ht⟩) hS.2.2 dX0_bit_26
  · have hv : lb (f (ix i)) (ix j) = true := hbit.mp hc
    refine lv_iconst (v := 1) hx hb dX0_bit_21 (by decide) ?_
    refine lv_goto (tgt := 26) hx hb dX0_bit_22 (by decide) ?_
    exact W.zret (v := 1) hx hb hr rfl (fun t ht hW => ⟨⟨1, (), rfl, by rw [hv]; rfl, mwE.give hP hK hD ht hW⟩, hS.F ht⟩) hS.2.2 dX0_bit_26
end
section
/-! BitSquareDeskModel: the object at o, the outer array at g, its 64 rows of booleans at g + 1 + j. t: isTurned; M: the bits as they lie -/
def moF (g : Nat) : Nat → Option Nat := fun j => if j < 64 then some (g + 1 + j) else none
def moR (g : Nat) (cB : ClassId) (M : Nat → Nat → Bool) (j : Nat) : Nat × va_E := (g + 1 + j, .inl (cB, 64, .inl (fun b => bI (M j b))))
def moRs (g : Nat) (cB : ClassId) (M : Nat → Nat → Bool) : va_W := (List.range 64).map (moR g cB M)
abbrev modelW (o g : Nat) (cO cB : ClassId) (t : Bool) (M : Nat → Nat → Bool) : va_W := (o, .inr (1, [.ref g, .int (bI t)])) :: (g, .inl (cO, 64, .inr (.inr (.inr (.inr (moF g)))))) :: moRs g cB M
abbrev moTy (cO cB : ClassId) : mwTy := [(cO, .array .boolean), (cB, .boolean)]
theorem moRs_get {g : Nat} {cB : ClassId} {M : Nat → Nat → Bool} {j : Nat} (hj : j < 64) : (moRs g cB M)[j]? = some (moR g cB M j) := by
  unfold moRs
  rw [List.getElem?_map, List.getElem?_range hj]
  rfl
theorem moRs_of {g : Nat} {cB : ClassId} {M : Nat → Nat → Bool} {j : Nat} {q : Nat × va_E} (h : (moRs g cB M)[j]? = some q) : j < 64 ∧ q = moR g cB M j := by
  have hj : j < 64 := by
    have := (List.getElem?_eq_some_iff.mp h).1
    unfold moRs at this
    simpa using this
  rw [moRs_get hj] at h
  exact ⟨hj, (Option.some.inj h).symm⟩
theorem mw_get {o g : Nat} {cO cB : ClassId} {t : Bool} {M : Nat → Nat → Bool} {j : Nat} (hj : j < 64) : (modelW o g cO cB t M)[j + 2]? = some (g + 1 + j, .inl (cB, 64, .inl (fun b => bI (M j b)))) := by
  rw [List.getElem?_cons_succ, List.getElem?_cons_succ]
  exact moRs_get hj
/-- one bit more -/
def upM (M : Nat → Nat → Bool) (i j : Nat) (v : Bool) : Nat → Nat → Bool := fun a b => if a = i ∧ b = j then v else M a b
theorem upM_row (M : Nat → Nat → Bool) (i j : Nat) (v : Bool) : upd (fun b => bI (M i b)) j (bI v) = fun b => bI (upM M i j v i b) := by
  funext b
  unfold upd upM
  by_cases h : b = j
  · simp [h]
  · simp [h]
theorem mw_set {o g : Nat} {cO cB : ClassId} {t : Bool} {M : Nat → Nat → Bool} {i j : Nat} {v : Bool} (hi : i < 64) : (modelW o g cO cB t M).set (i + 2) (g + 1 + i, .inl (cB, 64, .inl (upd (fun b => bI (M i b)) j (bI v)))) = modelW o g cO cB t (upM M i j v) := by
  rw [List.set_cons_succ, List.set_cons_succ]
  congr 2
  apply List.ext_getElem?
  intro k
  by_cases hk : k < 64
  · rw [moRs_get hk, List.getElem?_set]
    by_cases h : i = k
    · subst h
      rw [if_pos rfl, if_pos (by unfold moRs; simpa using hk), upM_row]
      rfl
    · rw [if_neg h, moRs_get hk]
      have e : (fun b => bI (M k b)) = fun b => bI (upM M i j v k b) := by
        funext b
        have h2 : ¬ (k = i ∧ b = j) := fun z => h z.1.symm
        unfold upM
        rw [if_neg h2]
      unfold moR
      rw [e]
  · rw [List.getElem?_eq_none (by unfold moRs; simp; omega), List.getElem?_eq_none (by unfold moRs; simp; omega)]
/-- the world of a new model -/
theorem mw_born {D : va_G} {cl : List vw_C} {A : Nat → Prop} {o : Nat} {eo : va_E} {H H1 : Heap} {cO cB : ClassId} (hP : va_P D cl [(o, eo)] H) (hD : va_D A [(o, eo)]) (hA : ∀ q, H.size ≤ q → A q) (hz : H1.size = H.size + 1 + 64) (ho : ∀ q, q < H.size → H1[q]? = H[q]?)
    (h1 : H1[H.size]? = some (arrV cO 64 (fun j => if j < 64 then .ref (H.size + 1 + j) else .null))) (h2 : ∀ j, j < 64 → H1[H.size + 1 + j]? = some (arrV cB 64 (fun _ => defaultValue .boolean))) :
    va_P D cl ((o, eo) :: (H.size, .inl (cO, 64, .inr (.inr (.inr (.inr (moF H.size)))))) :: moRs H.size cB (fun _ _ => false)) H1 ∧ va_D A ((o, eo) :: (H.size, .inl (cO, 64, .inr (.inr (.inr (.inr (moF H.size)))))) :: moRs H.size cB (fun _ _ => false)) := by
  have hl : o < H.size := (hP 0 (o, eo) rfl).lt
  have ad : ∀ (k : Nat) (q : Nat × va_E), ((o, eo) :: (H.size, .inl (cO, 64, .inr (.inr (.inr (.inr (moF H.size)))))) :: moRs H.size cB (fun _ _ => false))[k]? = some q → (k = 0 ∧ q = (o, eo)) ∨ (k = 1 ∧ q = (H.size, .inl (cO, 64, .inr (.inr (.inr (.inr (moF H.size))))))) ∨ ∃ j, k = j + 2 ∧ j < 64 ∧ q = moR H.size cB (fun _ _ => false) j := by
    intro k q hk
    match k, hk with
    | 0, hk => cases hk; exact Or.inl ⟨rfl, rfl⟩
    | 1, hk => cases hk; exact Or.inr (Or.inl ⟨rfl, rfl⟩)
    | j + 2, hk =>
      rw [List.getElem?_cons_succ, List.getElem?_cons_succ] at hk
      obtain ⟨a, b⟩ := moRs_of hk
      exact Or.inr (Or.inr ⟨j, rfl, a, b⟩)
  have an : ∀ (k : Nat) (q : Nat × va_E), ((o, eo) :: (H.size, .inl (cO, 64, .inr (.inr (.inr (.inr (moF H.size)))))) :: moRs H.size cB (fun _ _ => false))[k]? = some q → (k = 0 ∧ q.1 = o) ∨ (1 ≤ k ∧ q.1 + 1 = H.size + k) := by
    intro k q hk
    rcases ad k q hk with ⟨a, b⟩ | ⟨a, b⟩ | ⟨j, a, hj, b⟩
    · subst b; exact Or.inl ⟨a, rfl⟩
    · subst b; exact Or.inr ⟨by omega, by show H.size + 1 = _; omega⟩
    · subst b; exact Or.inr ⟨by omega, by show H.size + 1 + j + 1 = _; omega⟩
  refine ⟨fun k q hk => ?_, fun i j x y hi hj e => ?_, fun k q hk => ?_⟩
  · rcases ad k q hk with ⟨a, b⟩ | ⟨a, b⟩ | ⟨j, a, hj, b⟩
    · subst b
      exact (hP 0 (o, eo) rfl).kept (ho o hl)
    · subst b
      show H1[H.size]? = some (vp_cell cO _)
      rw [h1, vp_cell_q]
      congr 2
      funext j
      unfold moF
      split <;> rfl
    · subst b
      show H1[H.size + 1 + j]? = some (vp_cell cB _)
      rw [h2 j hj]
      rfl
  · rcases an i x hi with ⟨a, b⟩ | ⟨a, b⟩ <;> rcases an j y hj with ⟨a2, b2⟩ | ⟨a2, b2⟩ <;> omega
  · rcases an k q hk with ⟨a, b⟩ | ⟨a, b⟩
    · rw [b]; exact hD.2 0 (o, eo) rfl
    · exact hA _ (by omega)
section MO
variable {p : Program} {l : Launch} {e : Env} {R : Room} {s : State} {m : MethodId} {args : Array Value} {below : List Frame} {meth : Method} {c : Code} {H : Heap} {locs : List Loc} {cells slots : Nat} {Q : State → Prop}
variable {cc : ByteArray} {pc : Nat} {ls : Array Slot} {rest : List Value} {D : va_G} {cl : List vw_C} {A : Nat → Prop} {H0 : Heap} {o g : Nat} {cO cB : ClassId} {t : Bool} {M : Nat → Nat → Bool}
theorem mo_row (hx : p.tables.exec = Jvm.exec) (hb : c.code = cc) (hK : va_K D cl (moTy cO cB) s) (hP : va_P D cl (modelW o g cO cB t M) H) {i : Nat} (hi : i < 64) (hdg : decode cc pc = .ok (.aaload, 1))
    (kk : W p l e R s m args below meth c H locs cells slots Q (F0 m (pc + 1) ls (.ref (g + 1 + i) :: rest))) : W p l e R s m args below meth c H locs cells slots Q (F0 m pc ls (.int (nI i) :: .ref g :: rest)) :=
  wm_alda (ty := .boolean) hx hb hK hP 1 0 rfl rfl hi (Nat.le_of_ble_eq_true rfl) (by unfold moF; rw [if_pos hi]; rfl) hdg kk
theorem mo_ld (hx : p.tables.exec = Jvm.exec) (hb : c.code = cc) (hK : va_K D cl (moTy cO cB) s) (hP : va_P D cl (modelW o g cO cB t M) H) {i j : Nat} (hi : i < 64) (hj : j < 64) (hdg : decode cc pc = .ok (.baload, 1))
    (kk : W p l e R s m args below meth c H locs cells slots Q (F0 m (pc + 1) ls (.int (bI (M i j)) :: rest))) : W p l e R s m args below meth c H locs cells slots Q (F0 m pc ls (.int (nI j) :: .ref (g + 1 + i) :: rest)) := by
  refine va_zald hx hb hK hP (i + 2) 1 (mw_get hi) rfl (vp_in_nI hj (Nat.le_of_ble_eq_true rfl)) hdg ?_
  rw [nI_clamp (by omega)]
  exact kk
theorem mo_st (hx : p.tables.exec = Jvm.exec) (hb : c.code = cc) (hK : va_K D cl (moTy cO cB) s) (hP : va_P D cl (modelW o g cO cB t M) H) (hD : va_D A (modelW o g cO cB t M)) (hS : va_S A H0 H locs) {i j : Nat} {v : Bool} (hi : i < 64) (hj : j < 64) (hdg : decode cc pc = .ok (.bastore, 1))
    (kk : ∀ (H1 : Heap) (locs1 : List Loc), va_P D cl (modelW o g cO cB t (upM M i j v)) H1 → va_D A (modelW o g cO cB t (upM M i j v)) → va_S A H0 H1 locs1 → W p l e R s m args below meth c H1 locs1 cells slots Q (F0 m (pc + 1) ls rest)) : W p l e R s m args below meth c H locs cells slots Q (F0 m pc ls (.int (bI v) :: .int (nI j) :: .ref (g + 1 + i) :: rest)) := by
  refine va_zast hx hb hK hP hD hS (i + 2) 1 (mw_get hi) rfl (vp_in_nI hj (Nat.le_of_ble_eq_true rfl)) hdg (fun H1 locs1 hP1 hD1 hS1 => ?_)
  rw [nI_clamp (by omega), bI_nar, mw_set hi] at hP1 hD1
  exact kk H1 locs1 hP1 hD1 hS1
end MO
/-- one bit of the matrix, turned or not -/
theorem isv_up (t : Bool) (M : Nat → Nat → Bool) (i j : Nat) (v : Bool) (a b : Nat) : isv t (if t then upM M j i v else upM M i j v) a b = if a = i ∧ b = j then v else isv t M a b := by
  cases t
  · rfl
  · show (if b = j ∧ a = i then v else M b a) = if a = i ∧ b = j then v else M b a
    by_cases h : a = i ∧ b = j
    · rw [if_pos h, if_pos ⟨h.2, h.1⟩]
    · rw [if_neg h, if_neg (fun z => h ⟨z.2, z.1⟩)]

set_option maxHeartbeats 4000000 in
set_option maxRecDepth 100000 in
/-- whole(high, low): as BitSquareDesk.of -/
theorem met1_whole (l : Launch) (D : mwG) (hi lo : Int32) (sz : Nat) : Met l yX1_whole (ws_ yX1_whole cX1_whole 2 (some .long)) ({ frames := 0, cells := 0, slots := 0, locals := 0 })
    (va_Pc [.int (hi), .int (lo)] (fun U => U.heap.size = sz))
    (va_Ql (fun (r : Int64) (_ : Unit) => r = ofV hi lo) (fun _ _ => True) (va_A [] sz)) 0 0 (va_A [] sz) := by
  refine Met.ofW (cc := cX1_whole) (maxL := 2) (ret := (some .long)) (by decide) rfl ?_
  intro p e s m args below meth c s₁ B hml hv
  obtain ⟨rfl, hsz⟩ := hv
  have hx := B.exec
  have hb := B.bytes
  have hr := B.returns
  have hts := atoms_spec (ws := ws_ yX1_whole cX1_whole 2 (some .long)) B.pre
  have hts : ∀ w ∈ lw_all, w.before _ s = true := fun w h => hts w (List.mem_cons_of_mem _ h)
  have hown : s.vm.findClass RX1 = some m.cls := findClass_of_methodNamed B.named
  have hlocks := B.notSynchronized
  subst hsz
  generalize hAe : va_A [] s.heap.size = A
  have hA : ∀ q : Nat, s.heap.size ≤ q → A q := fun q h => by rw [← hAe]; exact Or.inr h
  have hS : va_S A s.heap s.heap [] := va_S.rf
  have hl := lv_entry ([.int (hi), .int (lo)]) (n := 2) (Nat.le_of_ble_eq_true rfl)
  rw [lg_entry_eq]
  generalize (lg_sl ([.int (hi), .int (lo)]) ++ List.replicate (2 - (lg_sl ([.int (hi), .int (lo)])).length) Slot.unset).toArray = ls at hl ⊢
  have hl : lv_has ls 2 [(0, .int (hi)), (1, .int (lo))] := hl
  refine lv_ldc2 hx hb hown (hts _ q79) dX1_whole_0 ?_
  refine lv_iload_n hx hb dX1_whole_3 rfl (lv_at hl 0 rfl) ?_
  refine lv_i2l (v := hi.toInt64) hx hb dX1_whole_4 rfl ?_
  refine lv_lmul hx hb dX1_whole_5 ?_
  refine lv_iload_n hx hb dX1_whole_6 rfl (lv_at hl 1 rfl) ?_
  refine lv_i2l (v := lo.toInt64) hx hb dX1_whole_7 rfl ?_
  refine lv_ldc2 hx hb hown (hts _ q80) dX1_whole_8 ?_
  refine lv_land hx hb dX1_whole_11 ?_
  refine lv_ladd hx hb dX1_whole_12 ?_
  exact W.lret (v := whV hi lo) hx hb hr (fun t ht hW => ⟨⟨whV hi lo, (), rfl, wh_of hi lo, trivial⟩, hS.F ht⟩) hS.2.2 dX1_whole_13

set_option maxHeartbeats 4000000 in
set_option maxRecDepth 100000 in
/-- is(i, j) -/
theorem met1_is (l : Launch) (D : mwG) (o g : Nat) (cO cB : ClassId) (t : Bool) (M : Nat → Nat → Bool) (i j : Nat) (hi : i < 64) (hj : j < 64) (sz : Nat) : Met l yX1_is (ws_ yX1_is cX1_is 3 (some .boolean)) ({ frames := 0, cells := 0, slots := 0, locals := 0 })
    (va_Pc [.ref o, .int (nI (i)), .int (nI (j))] (fun U => mwC D (modelW o g cO cB t M) (moTy cO cB) sz U))
    (va_Qi (fun (v : Int32) (_ : Unit) => v = bI (isv t M i j)) (fun _ T => mwE D (va_A (modelW o g cO cB t M) sz) (modelW o g cO cB t M) (moTy cO cB) T) (va_A (modelW o g cO cB t M) sz)) 0 0 (va_A (modelW o g cO cB t M) sz) := by
  refine Met.ofW (cc := cX1_is) (maxL := 3) (ret := (some .boolean)) (by decide) rfl ?_
  intro p e s m args below meth c s₁ B hml hv
  obtain ⟨rfl, hsz, hP, hK, hD0⟩ := hv
  have hx := B.exec
  have hb := B.bytes
  have hr := B.returns
  have hts := atoms_spec (ws := ws_ yX1_is cX1_is 3 (some .boolean)) B.pre
  have hts : ∀ w ∈ lw_all, w.before _ s = true := fun w h => hts w (List.mem_cons_of_mem _ h)
  have hown : s.vm.findClass RX1 = some m.cls := findClass_of_methodNamed B.named
  have hlocks := B.notSynchronized
  subst hsz
  have hD := hD0.self (sz := s.heap.size)
  generalize hAe : va_A (modelW o g cO cB t M) s.heap.size = A at hD ⊢
  have hA : ∀ q : Nat, s.heap.size ≤ q → A q := fun q h => by rw [← hAe]; exact Or.inr h
  have hS : va_S A s.heap s.heap [] := va_S.rf
  have hl := lv_entry ([.ref o, .int (nI (i)), .int (nI (j))]) (n := 3) (Nat.le_of_ble_eq_true rfl)
  rw [lg_entry_eq]
  generalize (lg_sl ([.ref o, .int (nI (i)), .int (nI (j))]) ++ List.replicate (3 - (lg_sl ([.ref o, .int (nI (i)), .int (nI (j))])).length) Slot.unset).toArray = ls at hl ⊢
  have hl : lv_has ls 3 [(0, .ref o), (1, .int (nI (i))), (2, .int (nI (j)))] := hl
  refine lv_aload_n hx hb dX1_is_0 rfl (lv_at hl 0 rfl) ?_
  refine va_get (D := D) (ci := 1) (v := .int (bI t)) (C := RX1) (T := TX1) (N := 2) hx hb hts in_X1 hown hK hP 0 rfl rfl 1 (by decide) (hts _ q65) (fun _ h9 => h9) rfl dX1_is_1 ?_
  refine lv_if_eq (tgt := 18) hx hb dX1_is_4 (by decide) (fun hc => ?_) (fun hc => ?_)
  · have ht0 : t = false := (bI_0 t).mp hc
    subst ht0
    refine lv_aload_n hx hb dX1_is_18 rfl (lv_at hl 0 rfl) ?_
    refine va_get (D := D) (ci := 1) (v := .ref g) (C := RX1) (T := TX1) (N := 2) hx hb hts in_X1 hown hK hP 0 rfl rfl 0 (by decide) (hts _ q64) (fun _ h9 => h9) rfl dX1_is_19 ?_
    refine lv_iload_n hx hb dX1_is_22 rfl (lv_at hl 1 rfl) ?_
    refine mo_row hx hb hK hP (by omega) dX1_is_23 ?_
    refine lv_iload_n hx hb dX1_is_24 rfl (lv_at hl 2 rfl) ?_
    refine mo_ld hx hb hK hP (by omega) (by omega) dX1_is_25 ?_
    exact W.zret (v := bI (M i j)) hx hb hr (by cases M i j <;> rfl) (fun t ht hW => ⟨⟨bI (M i j), (), rfl, rfl, mwE.give hP hK hD ht hW⟩, hS.F ht⟩) hS.2.2 dX1_is_26
  · have ht1 : t = true := by
      cases t with
      | true => rfl
      | false => exact absurd rfl hc
    subst ht1
    refine lv_aload_n hx hb dX1_is_7 rfl (lv_at hl 0 rfl) ?_
    refine va_get (D := D) (ci := 1) (v := .ref g) (C := RX1) (T := TX1) (N := 2) hx hb hts in_X1 hown hK hP 0 rfl rfl 0 (by decide) (hts _ q64) (fun _ h9 => h9) rfl dX1_is_8 ?_
    refine lv_iload_n hx hb dX1_is_11 rfl (lv_at hl 2 rfl) ?_
    refine mo_row hx hb hK hP (by omega) dX1_is_12 ?_
    refine lv_iload_n hx hb dX1_is_13 rfl (lv_at hl 1 rfl) ?_
    refine mo_ld hx hb hK hP (by omega) (by omega) dX1_is_14 ?_
    refine lv_goto (tgt := 26) hx hb dX1_is_15 (by decide) ?_
    exact W.zret (v := bI (M j i)) hx hb hr (by cases M j i <;> rfl) (fun t ht hW => ⟨⟨bI (M j i), (), rfl, rfl, mwE.give hP hK hD ht hW⟩, hS.F ht⟩) hS.2.2 dX1_is_26

set_option maxHeartbeats 4000000 in
set_option maxRecDepth 100000 in
theorem lay_loop {p : Program} {l : Launch} {e : Env} {R : Room} {s : State} {m : MethodId} {args : Array Value} {below : List Frame} {meth : Method} {c : Code} {Q : State → Prop} {D : mwG} {A : Nat → Prop} {cells slots : Nat} {o g : Nat} {cO cB : ClassId} {t : Bool} {M : Nat → Nat → Bool} {i : Nat} {x : Int64} (hi : i < 64) (hx : p.tables.exec = Jvm.exec) (hb : c.code = cX1_lay) (hown : s.vm.findClass RX1 = some m.cls) (hts : ∀ w ∈ lw_all, w.before args s = true) (hK : va_K D vwCl (moTy cO cB) s)
    (kend : ∀ (N : Nat → Nat → Bool) (H : Heap) (locs : List Loc) (ls : Array Slot), (∀ a, a < 64 → ∀ b, b < 64 → isv t N a b = if a = i then lb x b else isv t M a b) → va_P D vwCl (modelW o g cO cB t N) H → va_D A (modelW o g cO cB t N) → va_S A s.heap H locs → W p l e R s m args below meth c H locs cells slots Q (F0 m 66 ls [])) :
    ∀ (n j : Nat), j ≤ 64 → 64 < j + n → ∀ (N : Nat → Nat → Bool) (H : Heap) (locs : List Loc) (ls : Array Slot), (∀ a, a < 64 → ∀ b, b < 64 → isv t N a b = if a = i ∧ b < j then lb x b else isv t M a b) → va_P D vwCl (modelW o g cO cB t N) H → va_D A (modelW o g cO cB t N) → va_S A s.heap H locs → lv_has ls 6 [(4, .int (nI j)), (0, .ref o), (1, .int (nI i)), (2, .long x)] → W p l e R s m args below meth c H locs cells slots Q (F0 m 3 ls []) := by
  intro n
  induction n with
  | zero =>
    intro j h1 h2
    omega
  | succ n ih =>
    intro j hj hn N H locs ls hN hP hD hS hl
    refine lv_iload hx hb dX1_lay_3 (lv_at hl 0 rfl) ?_
    refine lv_bipush (v := nI 64) hx hb dX1_lay_5 (by decide) ?_
    refine wm_icge (tgt := 66) hx hb (by omega) (by omega) dX1_lay_7 (by decide) (fun hc => ?_) (fun hc => ?_)
    · refine kend N H locs ls (fun a ha b hb2 => ?_) hP hD hS
      rw [hN a ha b hb2]
      by_cases h : a = i
      · rw [if_pos ⟨h, by omega⟩, if_pos h]
      · rw [if_neg (fun z => h z.1), if_neg h]
    · skip
      have back : ∀ (H : Heap) (locs : List Loc) (ls : Array Slot), va_P D vwCl (modelW o g cO cB t (if t then upM N j i (lb x j) else upM N i j (lb x j))) H → va_D A (modelW o g cO cB t (if t then upM N j i (lb x j) else upM N i j (lb x j))) → va_S A s.heap H locs → lv_has ls 6 [(4, .int (nI j)), (0, .ref o), (1, .int (nI i)), (2, .long x)] → W p l e R s m args below meth c H locs cells slots Q (F0 m 60 ls []) := by
        intro H locs ls hP hD hS hl
        refine lv_iinc (v := nI (j + 1)) (lv' := [(4, .int (nI (j + 1))), (0, .ref o), (1, .int (nI i)), (2, .long x)]) hx hb dX1_lay_60 hl (k := 0) rfl (nI_inc j 1 _ (by decide)) (by decide) rfl (fun ls hl => ?_)
        refine lv_goto (tgt := 3) hx hb dX1_lay_63 (by decide) ?_
        refine ih (j + 1) (by omega) (by omega) _ H locs ls (fun a ha b hb2 => ?_) hP hD hS hl
        rw [isv_up, hN a ha b hb2]
        by_cases h1 : a = i ∧ b = j
        · rw [if_pos h1, if_pos ⟨h1.1, by omega⟩, h1.2]
        · rw [if_neg h1]
          by_cases h2 : a = i ∧ b < j
          · rw [if_pos h2, if_pos ⟨h2.1, by omega⟩]
          · have h3 : ¬ (a = i ∧ b < j + 1) := fun z => by
              have : b ≠ j := fun q => h1 ⟨z.1, q⟩
              exact h2 ⟨z.1, by omega⟩
            rw [if_neg h2, if_neg h3]
      have tail : W p l e R s m args below meth c H locs cells slots Q (F0 m 26 ls [.int (bI (lb x j))]) := by
        refine lv_istore (lv' := [(5, .int (bI (lb x j))), (4, .int (nI (j))), (0, .ref o), (1, .int (nI (i))), (2, .long (x))]) hx hb dX1_lay_26 hl (by decide) rfl (fun ls hl => ?_)
        refine lv_aload_n hx hb dX1_lay_28 rfl (lv_at hl 2 rfl) ?_
        refine va_get (D := D) (ci := 1) (v := .int (bI t)) (C := RX1) (T := TX1) (N := 2) hx hb hts in_X1 hown hK hP 0 rfl rfl 1 (by decide) (hts _ q65) (fun _ h9 => h9) rfl dX1_lay_29 ?_
        refine lv_if_eq (tgt := 49) hx hb dX1_lay_32 (by decide) (fun hc2 => ?_) (fun hc2 => ?_)
        · have ht0 : t = false := (bI_0 t).mp hc2
          subst ht0
          refine lv_aload_n hx hb dX1_lay_49 rfl (lv_at hl 2 rfl) ?_
          refine va_get (D := D) (ci := 1) (v := .ref g) (C := RX1) (T := TX1) (N := 2) hx hb hts in_X1 hown hK hP 0 rfl rfl 0 (by decide) (hts _ q64) (fun _ h9 => h9) rfl dX1_lay_50 ?_
          refine lv_iload_n hx hb dX1_lay_53 rfl (lv_at hl 3 rfl) ?_
          refine mo_row hx hb hK hP (by omega) dX1_lay_54 ?_
          refine lv_iload hx hb dX1_lay_55 (lv_at hl 1 rfl) ?_
          refine lv_iload hx hb dX1_lay_57 (lv_at hl 0 rfl) ?_
          refine mo_st hx hb hK hP hD hS (by omega) (by omega) dX1_lay_59 (fun H locs hP hD hS => ?_)
          exact back H locs ls hP hD hS (lv_sub hl [1, 2, 3, 4] rfl)
        · have ht1 : t = true := by
            cases t with
            | true => rfl
            | false => exact absurd rfl hc2
          subst ht1
          refine lv_aload_n hx hb dX1_lay_35 rfl (lv_at hl 2 rfl) ?_
          refine va_get (D := D) (ci := 1) (v := .ref g) (C := RX1) (T := TX1) (N := 2) hx hb hts in_X1 hown hK hP 0 rfl rfl 0 (by decide) (hts _ q64) (fun _ h9 => h9) rfl dX1_lay_36 ?_
          refine lv_iload hx hb dX1_lay_39 (lv_at hl 1 rfl) ?_
          refine mo_row hx hb hK hP (by omega) dX1_lay_41 ?_
          refine lv_iload_n hx hb dX1_lay_42 rfl (lv_at hl 3 rfl) ?_
          refine lv_iload hx hb dX1_lay_43 (lv_at hl 0 rfl) ?_
          refine mo_st hx hb hK hP hD hS (by omega) (by omega) dX1_lay_45 (fun H locs hP hD hS => ?_)
          refine lv_goto (tgt := 60) hx hb dX1_lay_46 (by decide) ?_
          exact back H locs ls hP hD hS (lv_sub hl [1, 2, 3, 4] rfl)
      refine lv_lload_n hx hb dX1_lay_10 rfl (lv_at hl 3 rfl) ?_
      refine lv_iload hx hb dX1_lay_11 (lv_at hl 0 rfl) ?_
      refine lv_lshr (v := jR x j) hx hb dX1_lay_13 rfl ?_
      refine lv_lconst (v := 1) hx hb dX1_lay_14 (by decide) ?_
      refine lv_land hx hb dX1_lay_15 ?_
      refine lv_lconst (v := 1) hx hb dX1_lay_16 (by decide) ?_
      refine W.lcmp hx hb dX1_lay_17 ?_
      have hbit : lg_cmp (jR x j &&& 1) 1 = 0 ↔ lb x j = true := by
        rw [lg_cmp_eq, lb_odd, lb_jR0 _ hc]
      refine lv_if_ne (tgt := 25) hx hb dX1_lay_18 (by decide) (fun hc2 => ?_) (fun hc2 => ?_)
      · have hv : lb x j = false := by
          cases h : lb x j with
          | true => exact absurd (hbit.mpr h) hc2
          | false => rfl
        refine lv_iconst (v := bI (lb x j)) hx hb dX1_lay_25 (by rw [hv]; decide) ?_
        exact tail
      · have hv : lb x j = true := hbit.mp hc2
        refine lv_iconst (v := bI (lb x j)) hx hb dX1_lay_21 (by rw [hv]; decide) ?_
        refine lv_goto (tgt := 26) hx hb dX1_lay_22 (by decide) ?_
        exact tail

set_option maxHeartbeats 4000000 in
set_option maxRecDepth 100000 in
/-- lay(i, row) -/
theorem met1_lay (l : Launch) (D : mwG) (o g : Nat) (cO cB : ClassId) (t : Bool) (M : Nat → Nat → Bool) (i : Nat) (x : Int64) (hi : i < 64) (sz : Nat) : Met l yX1_lay (ws_ yX1_lay cX1_lay 6 none) ({ frames := 0, cells := 0, slots := 0, locals := 0 })
    (va_Pc [.ref o, .int (nI (i)), .long (x)] (fun U => mwC D (modelW o g cO cB t M) (moTy cO cB) sz U))
    (va_Qv (fun N : Nat → Nat → Bool => ∀ a, a < 64 → ∀ b, b < 64 → isv t N a b = if a = i then lb (x) b else isv t M a b) (fun N T => mwE D (va_A (modelW o g cO cB t M) sz) (modelW o g cO cB t N) (moTy cO cB) T) (va_A (modelW o g cO cB t M) sz)) 0 0 (va_A (modelW o g cO cB t M) sz) := by
  refine Met.ofW (cc := cX1_lay) (maxL := 6) (ret := none) (by decide) rfl ?_
  intro p e s m args below meth c s₁ B hml hv
  obtain ⟨rfl, hsz, hP, hK, hD0⟩ := hv
  have hx := B.exec
  have hb := B.bytes
  have hr := B.returns
  have hts := atoms_spec (ws := ws_ yX1_lay cX1_lay 6 none) B.pre
  have hts : ∀ w ∈ lw_all, w.before _ s = true := fun w h => hts w (List.mem_cons_of_mem _ h)
  have hown : s.vm.findClass RX1 = some m.cls := findClass_of_methodNamed B.named
  have hlocks := B.notSynchronized
  subst hsz
  have hD := hD0.self (sz := s.heap.size)
  generalize hAe : va_A (modelW o g cO cB t M) s.heap.size = A at hD ⊢
  have hA : ∀ q : Nat, s.heap.size ≤ q → A q := fun q h => by rw [← hAe]; exact Or.inr h
  have hS : va_S A s.heap s.heap [] := va_S.rf
  have hl := lv_entry ([.ref o, .int (nI (i)), .long (x)]) (n := 6) (Nat.le_of_ble_eq_true rfl)
  rw [lg_entry_eq]
  generalize (lg_sl ([.ref o, .int (nI (i)), .long (x)]) ++ List.replicate (6 - (lg_sl ([.ref o, .int (nI (i)), .long (x)])).length) Slot.unset).toArray = ls at hl ⊢
  have hl : lv_has ls 6 [(0, .ref o), (1, .int (nI (i))), (2, .long (x))] := hl
  refine lv_iconst (v := nI 0) hx hb dX1_lay_0 (by decide) ?_
  refine lv_istore (lv' := [(4, .int (nI (0))), (0, .ref o), (1, .int (nI (i))), (2, .long (x))]) hx hb dX1_lay_1 hl (by decide) rfl (fun ls hl => ?_)
  exact lay_loop hi hx hb hown hts hK (M := M) (fun N H locs ls hN hP hD hS => W.vret hx hb hr (fun t ht hW => ⟨⟨N, rfl, hN, mwE.give hP hK hD ht hW⟩, hS.F ht⟩) hS.2.2 dX1_lay_66) 65 0 (Nat.zero_le _) (by omega) M s.heap [] ls (fun a ha b hb2 => by rw [if_neg (fun z => Nat.not_lt_zero b z.2)]) hP hD hS (lv_sub hl [0, 1, 2, 3] rfl)

set_option maxHeartbeats 4000000 in
set_option maxRecDepth 100000 in
/-- set(i, high, low) -/
theorem met1_set (l : Launch) (D : mwG) (o g : Nat) (cO cB : ClassId) (t : Bool) (M : Nat → Nat → Bool) (i hi lo : Int32) (sz : Nat) : Met l yX1_set (ws_ yX1_set cX1_set 4 none) ({ frames := 1, cells := 0, slots := 0, locals := 25 })
    (va_Pc [.ref o, .int (i), .int (hi), .int (lo)] (fun U => mwC D (modelW o g cO cB t M) (moTy cO cB) sz U))
    (va_Qv (fun N : Nat → Nat → Bool => ∀ a, a < 64 → ∀ b, b < 64 → isv t N a b = if a = ix i then lb (ofV hi lo) b else isv t M a b) (fun N T => mwE D (va_A (modelW o g cO cB t M) sz) (modelW o g cO cB t N) (moTy cO cB) T) (va_A (modelW o g cO cB t M) sz)) 0 0 (va_A (modelW o g cO cB t M) sz) := by
  refine Met.ofW (cc := cX1_set) (maxL := 4) (ret := none) (by decide) rfl ?_
  intro p e s m args below meth c s₁ B hml hv
  obtain ⟨rfl, hsz, hP, hK, hD0⟩ := hv
  have hx := B.exec
  have hb := B.bytes
  have hr := B.returns
  have hts := atoms_spec (ws := ws_ yX1_set cX1_set 4 none) B.pre
  have hts : ∀ w ∈ lw_all, w.before _ s = true := fun w h => hts w (List.mem_cons_of_mem _ h)
  have hown : s.vm.findClass RX1 = some m.cls := findClass_of_methodNamed B.named
  have hlocks := B.notSynchronized
  subst hsz
  have hD := hD0.self (sz := s.heap.size)
  generalize hAe : va_A (modelW o g cO cB t M) s.heap.size = A at hD ⊢
  have hA : ∀ q : Nat, s.heap.size ≤ q → A q := fun q h => by rw [← hAe]; exact Or.inr h
  have hS : va_S A s.heap s.heap [] := va_S.rf
  have hl := lv_entry ([.ref o, .int (i), .int (hi), .int (lo)]) (n := 4) (Nat.le_of_ble_eq_true rfl)
  rw [lg_entry_eq]
  generalize (lg_sl ([.ref o, .int (i), .int (hi), .int (lo)]) ++ List.replicate (4 - (lg_sl ([.ref o, .int (i), .int (hi), .int (lo)])).length) Slot.unset).toArray = ls at hl ⊢
  have hl : lv_has ls 4 [(0, .ref o), (1, .int (i)), (2, .int (hi)), (3, .int (lo))] := hl
  have hcap : 0 + 0 ≤ 0 ∧ 0 + 0 ≤ 0 := ⟨Nat.le_refl _, Nat.le_refl _⟩
  refine lv_aload_n hx hb dX1_set_0 rfl (lv_at hl 0 rfl) ?_
  refine lv_iload_n hx hb dX1_set_1 rfl (lv_at hl 1 rfl) ?_
  refine lv_bipush (v := nI 63) hx hb dX1_set_2 (by decide) ?_
  refine lv_iand hx hb dX1_set_4 ?_
  rw [show (nI 63 : Int32) = 63 from rfl, ix_and]
  refine lv_iload_n hx hb dX1_set_5 rfl (lv_at hl 2 rfl) ?_
  refine lv_iload_n hx hb dX1_set_6 rfl (lv_at hl 3 rfl) ?_
  have hF0 := mwFree0 hS hA
  refine va_calll (va_runS (As := [.int hi, .int lo]) (rest := [.int (nI (ix i)), .ref o]) ⟨hx, hb, hml, hown, hts⟩ (met1_whole l D hi lo s.heap.size) (va_cwS 2 hts (lw_S q76 q77 q4 q78) rfl rfl rfl (by decide +kernel) ⟨(Nat.le_of_ble_eq_true rfl), (Nat.le_of_ble_eq_true rfl)⟩) ⟨fun a U g mk q => ⟨q.1, q.2⟩, fun U hU hW => ⟨rfl, congrArg Array.size hU⟩⟩ rfl rfl hl.1 rfl (lv_room (Nat.le_of_ble_eq_true rfl)) dX1_set_7 ⟨Nat.zero_le _, Nat.zero_le _⟩) hS (fun q _ h => hF0 q h) hF0 (fun v0 u t1 H locs ht hvm hw hB hz1 hk1 hS => ?_)
  have hP := mwKeep0 hP hk1
  have hw : v0 = ofV hi lo := hw
  subst hw
  have hFc := mwFree hD hS hA
  refine va_callv (va_runV (As := [.int (nI (ix i)), .long (ofV hi lo)]) (rest := []) ⟨hx, hb, hml, hown, hts⟩ (met1_lay l D o g cO cB t M (ix i) (ofV hi lo) (ix_lt i) H.size) (cwV 2 hts (lw_V q81 q83 qs0 q4 q84) rfl rfl rfl (by decide +kernel) ⟨(Nat.le_of_ble_eq_true rfl), (Nat.le_of_ble_eq_true rfl)⟩) ⟨fun a U g mk q => ⟨q.1, q.2.calling g mk a⟩, va_recv hK hP (ci := 1) (q0 := 0) rfl rfl, fun U hU hW => ⟨rfl, mwC.give hP hK hD hU hW⟩⟩ rfl rfl hl.1 rfl (lv_room (Nat.le_of_ble_eq_true rfl)) dX1_set_10 ⟨hcap.1, hcap.2⟩) hS (fun q _ h => hFc q h) hFc (fun N t1 H1 locs ht hvm hw1 hB hz1 hk1 hS => ?_)
  obtain ⟨hP1, hK1, hD1⟩ := hB
  rw [ht] at hP1
  have hP : va_P D vwCl (modelW o g cO cB t N) H1 := hP1
  have hD : va_D A (modelW o g cO cB t N) := hD1.weaken (fun _ _ _ h => hFc _ h)
  exact W.vret hx hb hr (fun t ht hW => ⟨⟨N, rfl, hw1, mwE.give hP hK hD ht hW⟩, hS.F ht⟩) hS.2.2 dX1_set_13

set_option maxHeartbeats 4000000 in
set_option maxRecDepth 100000 in
theorem sp1_loop {p : Program} {l : Launch} {e : Env} {R : Room} {s : State} {m : MethodId} {args : Array Value} {below : List Frame} {meth : Method} {c : Code} {Q : State → Prop} {D : mwG} {A : Nat → Prop} {cells slots : Nat} {o g : Nat} {cO cB : ClassId} {t : Bool} {v0 : Int64} {st : Int32} (hx : p.tables.exec = Jvm.exec) (hb : c.code = cX1_spread) (hml : c.maxLocals = 7) (hR : 1 ≤ R.frames ∧ 25 ≤ R.locals) (hcap : cells + 0 ≤ R.cells ∧ slots + 0 ≤ R.slots) (hown : s.vm.findClass RX1 = some m.cls) (hts : ∀ w ∈ lw_all, w.before args s = true) (hA : ∀ q : Nat, s.heap.size ≤ q → A q) (hK : va_K D vwCl (moTy cO cB) s)
    (kend : ∀ (N : Nat → Nat → Bool) (H : Heap) (locs : List Loc) (ls : Array Slot), (∀ a, a < 64 → ∀ b, b < 64 → isv t N a b = lb (spV v0 st.toInt64 a) b) → va_P D vwCl (modelW o g cO cB t N) H → va_D A (modelW o g cO cB t N) → va_S A s.heap H locs → W p l e R s m args below meth c H locs cells slots Q (F0 m 42 ls [])) :
    ∀ (n k : Nat), k ≤ 64 → 64 < k + n → ∀ (N : Nat → Nat → Bool) (H : Heap) (locs : List Loc) (ls : Array Slot), (∀ a, a < k → ∀ b, b < 64 → isv t N a b = lb (spV v0 st.toInt64 a) b) → va_P D vwCl (modelW o g cO cB t N) H → va_D A (modelW o g cO cB t N) → va_S A s.heap H locs → lv_has ls 7 [(6, .int (nI k)), (4, .long (spV v0 st.toInt64 k)), (0, .ref o), (3, .int st)] → W p l e R s m args below meth c H locs cells slots Q (F0 m 10 ls []) := by
  intro n
  induction n with
  | zero =>
    intro k h1 h2
    omega
  | succ n ih =>
    intro k hk hn N H locs ls hN hP hD hS hl
    refine lv_iload hx hb dX1_spread_10 (lv_at hl 0 rfl) ?_
    refine lv_bipush (v := nI 64) hx hb dX1_spread_12 (by decide) ?_
    refine wm_icge (tgt := 42) hx hb (by omega) (by omega) dX1_spread_14 (by decide) (fun hc => ?_) (fun hc => ?_)
    · exact kend N H locs ls (fun a ha b hb2 => hN a (by omega) b hb2) hP hD hS
    · skip
      refine lv_aload_n hx hb dX1_spread_17 rfl (lv_at hl 2 rfl) ?_
      refine lv_iload hx hb dX1_spread_18 (lv_at hl 0 rfl) ?_
      refine lv_lload hx hb dX1_spread_20 (lv_at hl 1 rfl) ?_
      have hFc := mwFree hD hS hA
      refine va_callv (va_runV (As := [.int (nI (k)), .long (spV v0 st.toInt64 k)]) (rest := []) ⟨hx, hb, hml, hown, hts⟩ (met1_lay l D o g cO cB t N (k) (spV v0 st.toInt64 k) hc H.size) (cwV 2 hts (lw_V q81 q83 qs0 q4 q84) rfl rfl rfl (by decide +kernel) ⟨hR.1, hR.2⟩) ⟨fun a U g mk q => ⟨q.1, q.2.calling g mk a⟩, va_recv hK hP (ci := 1) (q0 := 0) rfl rfl, fun U hU hW => ⟨rfl, mwC.give hP hK hD hU hW⟩⟩ rfl rfl hl.1 rfl (lv_room (Nat.le_of_ble_eq_true rfl)) dX1_spread_22 ⟨hcap.1, hcap.2⟩) hS (fun q _ h => hFc q h) hFc (fun N2 t1 H1 locs ht hvm hw1 hB hz1 hk1 hS => ?_)
      obtain ⟨hP1, hK1, hD1⟩ := hB
      rw [ht] at hP1
      have hP : va_P D vwCl (modelW o g cO cB t N2) H1 := hP1
      have hD : va_D A (modelW o g cO cB t N2) := hD1.weaken (fun _ _ _ h => hFc _ h)
      refine lv_ldc2 hx hb hown (hts _ q89) dX1_spread_25 ?_
      refine lv_lload hx hb dX1_spread_28 (lv_at hl 1 rfl) ?_
      refine lv_lmul hx hb dX1_spread_30 ?_
      refine lv_iload_n hx hb dX1_spread_31 rfl (lv_at hl 3 rfl) ?_
      refine lv_i2l (v := st.toInt64) hx hb dX1_spread_32 rfl ?_
      refine lv_ladd hx hb dX1_spread_33 ?_
      rw [spV_comm]
      refine lv_lstore (lv' := [(4, .long (spV v0 st.toInt64 (k + 1))), (6, .int (nI (k))), (0, .ref o), (3, .int (st))]) hx hb dX1_spread_34 hl (by decide) rfl (fun ls hl => ?_)
      refine lv_iinc (v := nI (k + 1)) (lv' := [(6, .int (nI (k + 1))), (4, .long (spV v0 st.toInt64 (k + 1))), (0, .ref o), (3, .int (st))]) hx hb dX1_spread_36 hl (k := 1) rfl (nI_inc k 1 _ (by decide)) (by decide) rfl (fun ls hl => ?_)
      refine lv_goto (tgt := 10) hx hb dX1_spread_39 (by decide) ?_
      refine ih (k + 1) (by omega) (by omega) N2 H1 locs ls (fun a ha b hb2 => ?_) hP hD hS (lv_sub hl [0, 1, 2, 3] rfl)
      rw [hw1 a (by omega) b hb2]
      by_cases h : a = k
      · rw [if_pos h, h]
      · rw [if_neg h]
        exact hN a (by omega) b hb2

set_option maxHeartbeats 4000000 in
set_option maxRecDepth 100000 in
/-- spread(high, low, step) -/
theorem met1_spread (l : Launch) (D : mwG) (o g : Nat) (cO cB : ClassId) (t : Bool) (M : Nat → Nat → Bool) (hi lo st : Int32) (sz : Nat) : Met l yX1_spread (ws_ yX1_spread cX1_spread 7 none) ({ frames := 1, cells := 0, slots := 0, locals := 25 })
    (va_Pc [.ref o, .int (hi), .int (lo), .int (st)] (fun U => mwC D (modelW o g cO cB t M) (moTy cO cB) sz U))
    (va_Qv (fun N : Nat → Nat → Bool => ∀ a, a < 64 → ∀ b, b < 64 → isv t N a b = lb (spV (ofV hi lo) st.toInt64 a) b) (fun N T => mwE D (va_A (modelW o g cO cB t M) sz) (modelW o g cO cB t N) (moTy cO cB) T) (va_A (modelW o g cO cB t M) sz)) 0 0 (va_A (modelW o g cO cB t M) sz) := by
  refine Met.ofW (cc := cX1_spread) (maxL := 7) (ret := none) (by decide) rfl ?_
  intro p e s m args below meth c s₁ B hml hv
  obtain ⟨rfl, hsz, hP, hK, hD0⟩ := hv
  have hx := B.exec
  have hb := B.bytes
  have hr := B.returns
  have hts := atoms_spec (ws := ws_ yX1_spread cX1_spread 7 none) B.pre
  have hts : ∀ w ∈ lw_all, w.before _ s = true := fun w h => hts w (List.mem_cons_of_mem _ h)
  have hown : s.vm.findClass RX1 = some m.cls := findClass_of_methodNamed B.named
  have hlocks := B.notSynchronized
  subst hsz
  have hD := hD0.self (sz := s.heap.size)
  generalize hAe : va_A (modelW o g cO cB t M) s.heap.size = A at hD ⊢
  have hA : ∀ q : Nat, s.heap.size ≤ q → A q := fun q h => by rw [← hAe]; exact Or.inr h
  have hS : va_S A s.heap s.heap [] := va_S.rf
  have hl := lv_entry ([.ref o, .int (hi), .int (lo), .int (st)]) (n := 7) (Nat.le_of_ble_eq_true rfl)
  rw [lg_entry_eq]
  generalize (lg_sl ([.ref o, .int (hi), .int (lo), .int (st)]) ++ List.replicate (7 - (lg_sl ([.ref o, .int (hi), .int (lo), .int (st)])).length) Slot.unset).toArray = ls at hl ⊢
  have hl : lv_has ls 7 [(0, .ref o), (1, .int (hi)), (2, .int (lo)), (3, .int (st))] := hl
  refine lv_iload_n hx hb dX1_spread_0 rfl (lv_at hl 1 rfl) ?_
  refine lv_iload_n hx hb dX1_spread_1 rfl (lv_at hl 2 rfl) ?_
  have hF0 := mwFree0 hS hA
  refine va_calll (va_runS (As := [.int hi, .int lo]) (rest := []) ⟨hx, hb, hml, hown, hts⟩ (met1_whole l D hi lo s.heap.size) (va_cwS 2 hts (lw_S q76 q77 q4 q78) rfl rfl rfl (by decide +kernel) ⟨(Nat.le_of_ble_eq_true rfl), (Nat.le_of_ble_eq_true rfl)⟩) ⟨fun a U g mk q => ⟨q.1, q.2⟩, fun U hU hW => ⟨rfl, congrArg Array.size hU⟩⟩ rfl rfl hl.1 rfl (lv_room (Nat.le_of_ble_eq_true rfl)) dX1_spread_2 ⟨Nat.zero_le _, Nat.zero_le _⟩) hS (fun q _ h => hF0 q h) hF0 (fun v0 u t1 H locs ht hvm hw hB hz1 hk1 hS => ?_)
  have hP := mwKeep0 hP hk1
  have hw : v0 = ofV hi lo := hw
  subst hw
  refine lv_lstore (lv' := [(4, .long (ofV hi lo)), (0, .ref o), (1, .int (hi)), (2, .int (lo)), (3, .int (st))]) hx hb dX1_spread_5 hl (by decide) rfl (fun ls hl => ?_)
  refine lv_iconst (v := nI 0) hx hb dX1_spread_7 (by decide) ?_
  refine lv_istore (lv' := [(6, .int (nI (0))), (4, .long (ofV hi lo)), (0, .ref o), (1, .int (hi)), (2, .int (lo)), (3, .int (st))]) hx hb dX1_spread_8 hl (by decide) rfl (fun ls hl => ?_)
  exact sp1_loop (v0 := ofV hi lo) hx hb hml ⟨(Nat.le_of_ble_eq_true rfl), (Nat.le_of_ble_eq_true rfl)⟩ ⟨Nat.zero_le _, Nat.zero_le _⟩ hown hts hA hK (fun N H locs ls hN hP hD hS => W.vret hx hb hr (fun t ht hW => ⟨⟨N, rfl, hN, mwE.give hP hK hD ht hW⟩, hS.F ht⟩) hS.2.2 dX1_spread_42) 65 0 (Nat.zero_le _) (by omega) M H locs ls (fun a ha => absurd ha (Nat.not_lt_zero a)) hP hD hS (lv_sub hl [0, 1, 2, 5] rfl)

set_option maxHeartbeats 4000000 in
set_option maxRecDepth 100000 in
/-- turn() -/
theorem met1_turn (l : Launch) (D : mwG) (o g : Nat) (cO cB : ClassId) (t : Bool) (M : Nat → Nat → Bool) (sz : Nat) : Met l yX1_turn (ws_ yX1_turn cX1_turn 1 none) ({ frames := 0, cells := 0, slots := 0, locals := 0 })
    (va_Pc [.ref o] (fun U => mwC D (modelW o g cO cB t M) (moTy cO cB) sz U))
    (va_Qv (fun _ : Unit => True) (fun _ T => mwE D (va_A (modelW o g cO cB t M) sz) (modelW o g cO cB (!t) M) (moTy cO cB) T) (va_A (modelW o g cO cB t M) sz)) 0 0 (va_A (modelW o g cO cB t M) sz) := by
  refine Met.ofW (cc := cX1_turn) (maxL := 1) (ret := none) (by decide) rfl ?_
  intro p e s m args below meth c s₁ B hml hv
  obtain ⟨rfl, hsz, hP, hK, hD0⟩ := hv
  have hx := B.exec
  have hb := B.bytes
  have hr := B.returns
  have hts := atoms_spec (ws := ws_ yX1_turn cX1_turn 1 none) B.pre
  have hts : ∀ w ∈ lw_all, w.before _ s = true := fun w h => hts w (List.mem_cons_of_mem _ h)
  have hown : s.vm.findClass RX1 = some m.cls := findClass_of_methodNamed B.named
  have hlocks := B.notSynchronized
  subst hsz
  have hD := hD0.self (sz := s.heap.size)
  generalize hAe : va_A (modelW o g cO cB t M) s.heap.size = A at hD ⊢
  have hA : ∀ q : Nat, s.heap.size ≤ q → A q := fun q h => by rw [← hAe]; exact Or.inr h
  have hS : va_S A s.heap s.heap [] := va_S.rf
  have hl := lv_entry ([.ref o]) (n := 1) (Nat.le_of_ble_eq_true rfl)
  rw [lg_entry_eq]
  generalize (lg_sl ([.ref o]) ++ List.replicate (1 - (lg_sl ([.ref o])).length) Slot.unset).toArray = ls at hl ⊢
  have hl : lv_has ls 1 [(0, .ref o)] := hl
  have tail : W p l e (headSpec (ws_ yX1_turn cX1_turn 1 none) ({ frames := 0, cells := 0, slots := 0, locals := 0 })).room s m ([.ref o] : List Value).toArray below meth c s.heap [] 0 0 (MQ below (va_Qv (fun _ : Unit => True) (fun _ T => mwE D A (modelW o g cO cB (!t) M) (moTy cO cB) T) A) ([.ref o] : List Value).toArray s 0 0 A) (F0 m 13 ls [.int (bI (!t)), .ref o]) := by
    refine va_put (D := D) (ci := 1) (v := .int (bI (!t))) (ty := .boolean) (C := RX1) (T := TX1) (N := 2) hx hb hts in_X1 tyX1 tyX1_ok nmX1 hown hK hP hD hS 0 rfl rfl 1 (by decide) (hts _ q65) (fun _ h9 => h9) rfl (by decide +kernel) (by cases t <;> rfl) (by cases t <;> rfl) (Nat.le_of_ble_eq_true rfl) dX1_turn_13 (fun H locs hP hD hS => ?_)
    have hP : va_P D vwCl (modelW o g cO cB (!t) M) H := hP
    have hD : va_D A (modelW o g cO cB (!t) M) := hD
    exact W.vret hx hb hr (fun t ht hW => ⟨⟨(), rfl, trivial, mwE.give hP hK hD ht hW⟩, hS.F ht⟩) hS.2.2 dX1_turn_16
  refine lv_aload_n hx hb dX1_turn_0 rfl (lv_at hl 0 rfl) ?_
  refine lv_aload_n hx hb dX1_turn_1 rfl (lv_at hl 0 rfl) ?_
  refine va_get (D := D) (ci := 1) (v := .int (bI t)) (C := RX1) (T := TX1) (N := 2) hx hb hts in_X1 hown hK hP 0 rfl rfl 1 (by decide) (hts _ q65) (fun _ h9 => h9) rfl dX1_turn_2 ?_
  refine lv_if_ne (tgt := 12) hx hb dX1_turn_5 (by decide) (fun hc => ?_) (fun hc => ?_)
  · have ht1 : bI (!t) = 0 := by
      cases t with
      | true => rfl
      | false => exact absurd rfl hc
    refine lv_iconst (v := bI (!t)) hx hb dX1_turn_12 (by rw [ht1]; decide) ?_
    exact tail
  · have ht0 : bI (!t) = 1 := by
      rw [(bI_0 t).mp hc]
      rfl
    refine lv_iconst (v := bI (!t)) hx hb dX1_turn_8 (by rw [ht0]; decide) ?_
    refine lv_goto (tgt := 13) hx hb dX1_turn_9 (by decide) ?_
    exact tail

set_option maxHeartbeats 4000000 in
set_option maxRecDepth 100000 in
/-- bit(i, j) -/
theorem met1_bit (l : Launch) (D : mwG) (o g : Nat) (cO cB : ClassId) (t : Bool) (M : Nat → Nat → Bool) (i j : Int32) (sz : Nat) : Met l yX1_bit (ws_ yX1_bit cX1_bit 3 (some .boolean)) ({ frames := 1, cells := 0, slots := 0, locals := 22 })
    (va_Pc [.ref o, .int (i), .int (j)] (fun U => mwC D (modelW o g cO cB t M) (moTy cO cB) sz U))
    (va_Qi (fun (v : Int32) (_ : Unit) => v = bI (isv t M (ix i) (ix j))) (fun _ T => mwE D (va_A (modelW o g cO cB t M) sz) (modelW o g cO cB t M) (moTy cO cB) T) (va_A (modelW o g cO cB t M) sz)) 0 0 (va_A (modelW o g cO cB t M) sz) := by
  refine Met.ofW (cc := cX1_bit) (maxL := 3) (ret := (some .boolean)) (by decide) rfl ?_
  intro p e s m args below meth c s₁ B hml hv
  obtain ⟨rfl, hsz, hP, hK, hD0⟩ := hv
  have hx := B.exec
  have hb := B.bytes
  have hr := B.returns
  have hts := atoms_spec (ws := ws_ yX1_bit cX1_bit 3 (some .boolean)) B.pre
  have hts : ∀ w ∈ lw_all, w.before _ s = true := fun w h => hts w (List.mem_cons_of_mem _ h)
  have hown : s.vm.findClass RX1 = some m.cls := findClass_of_methodNamed B.named
  have hlocks := B.notSynchronized
  subst hsz
  have hD := hD0.self (sz := s.heap.size)
  generalize hAe : va_A (modelW o g cO cB t M) s.heap.size = A at hD ⊢
  have hA : ∀ q : Nat, s.heap.size ≤ q → A q := fun q h => by rw [← hAe]; exact Or.inr h
  have hS : va_S A s.heap s.heap [] := va_S.rf
  have hl := lv_entry ([.ref o, .int (i), .int (j)]) (n := 3) (Nat.le_of_ble_eq_true rfl)
  rw [lg_entry_eq]
  generalize (lg_sl ([.ref o, .int (i), .int (j)]) ++ List.replicate (3 - (lg_sl ([.ref o, .int (i), .int (j)])).length) Slot.unset).toArray = ls at hl ⊢
  have hl : lv_has ls 3 [(0, .ref o), (1, .int (i)), (2, .int (j))] := hl
  refine lv_aload_n hx hb dX1_bit_0 rfl (lv_at hl 0 rfl) ?_
  refine lv_iload_n hx hb dX1_bit_1 rfl (lv_at hl 1 rfl) ?_
  refine lv_bipush (v := nI 63) hx hb dX1_bit_2 (by decide) ?_
  refine lv_iand hx hb dX1_bit_4 ?_
  rw [show (nI 63 : Int32) = 63 from rfl, ix_and]
  refine lv_iload_n hx hb dX1_bit_5 rfl (lv_at hl 2 rfl) ?_
  refine lv_bipush (v := nI 63) hx hb dX1_bit_6 (by decide) ?_
  refine lv_iand hx hb dX1_bit_8 ?_
  rw [show (nI 63 : Int32) = 63 from rfl, ix_and]
  have hFc := mwFree hD hS hA
  refine va_calli (va_runV (As := [.int (nI (ix i)), .int (nI (ix j))]) (rest := []) ⟨hx, hb, hml, hown, hts⟩ (met1_is l D o g cO cB t M (ix i) (ix j) (ix_lt i) (ix_lt j) s.heap.size) (cwV 2 hts (lw_V q99 q101 qs1 q4 q102) rfl rfl rfl (by decide +kernel) ⟨(Nat.le_of_ble_eq_true rfl), (Nat.le_of_ble_eq_true rfl)⟩) ⟨fun a U g mk q => ⟨q.1, q.2.calling g mk a⟩, va_recv hK hP (ci := 1) (q0 := 0) rfl rfl, fun U hU hW => ⟨rfl, mwC.give hP hK hD hU hW⟩⟩ rfl rfl hl.1 rfl (lv_room (Nat.le_of_ble_eq_true rfl)) dX1_bit_9 ⟨Nat.zero_le _, Nat.zero_le _⟩) hS (fun q _ h => hFc q h) hFc (fun v0 u t1 H1 locs ht hvm hw hB hz1 hk1 hS => ?_)
  obtain ⟨hP1, hK1, hD1⟩ := hB
  rw [ht] at hP1
  have hP : va_P D vwCl (modelW o g cO cB t M) H1 := hP1
  have hD : va_D A (modelW o g cO cB t M) := hD1.weaken (fun _ _ _ h => hFc _ h)
  have hw : v0 = bI (isv t M (ix i) (ix j)) := hw
  subst hw
  exact W.zret (v := bI (isv t M (ix i) (ix j))) hx hb hr (by cases isv t M (ix i) (ix j) <;> rfl) (fun t ht hW => ⟨⟨_, (), rfl, rfl, mwE.give hP hK hD ht hW⟩, hS.F ht⟩) hS.2.2 dX1_bit_12

set_option maxHeartbeats 4000000 in
set_option maxRecDepth 100000 in
theorem get_loop {p : Program} {l : Launch} {e : Env} {R : Room} {s : State} {m : MethodId} {args : Array Value} {below : List Frame} {meth : Method} {c : Code} {Q : State → Prop} {D : mwG} {A : Nat → Prop} {cells slots : Nat} {o g : Nat} {cO cB : ClassId} {t : Bool} {M : Nat → Nat → Bool} {i : Int32} (hx : p.tables.exec = Jvm.exec) (hb : c.code = cX1_get) (hml : c.maxLocals = 5) (hR : 1 ≤ R.frames ∧ 22 ≤ R.locals) (hcap : cells + 0 ≤ R.cells ∧ slots + 0 ≤ R.slots) (hown : s.vm.findClass RX1 = some m.cls) (hts : ∀ w ∈ lw_all, w.before args s = true) (hA : ∀ q : Nat, s.heap.size ≤ q → A q) (hK : va_K D vwCl (moTy cO cB) s)
    (kend : ∀ (v : Int64) (H : Heap) (locs : List Loc) (ls : Array Slot), (∀ b, b < 64 → lb v b = isv t M (ix i) b) → va_P D vwCl (modelW o g cO cB t M) H → va_D A (modelW o g cO cB t M) → va_S A s.heap H locs → W p l e R s m args below meth c H locs cells slots Q (F0 m 43 ls [.long v])) :
    ∀ (n : Nat), n ≤ 64 → ∀ (v : Int64) (H : Heap) (locs : List Loc) (ls : Array Slot), (∀ b, b < 64 → lb v b = (decide (b + n < 64) && isv t M (ix i) (b + n))) → va_P D vwCl (modelW o g cO cB t M) H → va_D A (modelW o g cO cB t M) → va_S A s.heap H locs → lv_has ls 5 [(4, .int (nI n - 1)), (2, .long v), (0, .ref o), (1, .int i)] → W p l e R s m args below meth c H locs cells slots Q (F0 m 6 ls []) := by
  intro n
  induction n with
  | zero =>
    intro hn v H locs ls hV hP hD hS hl
    refine lv_iload hx hb dX1_get_6 (lv_at hl 0 rfl) ?_
    refine lv_if_lt (tgt := 42) hx hb dX1_get_8 (by decide) (fun hc => ?_) (fun hc => ?_)
    · refine lv_lload_n hx hb dX1_get_42 rfl (lv_at hl 1 rfl) ?_
      exact kend v H locs ls (fun b hb2 => by rw [hV b hb2, Nat.add_zero, decide_eq_true hb2, Bool.true_and]) hP hD hS
    · exact absurd (by decide) hc
  | succ n ih =>
    intro hn v H locs ls hV hP hD hS hl
    rw [nI_pred] at hl
    have hn64 : n < 64 := by omega
    refine lv_iload hx hb dX1_get_6 (lv_at hl 0 rfl) ?_
    refine lv_if_lt (tgt := 42) hx hb dX1_get_8 (by decide) (fun hc => absurd hc (nI_pos (by omega))) (fun hc => ?_)
    refine lv_ldc2 hx hb hown (hts _ q98) dX1_get_11 ?_
    refine lv_lload_n hx hb dX1_get_14 rfl (lv_at hl 1 rfl) ?_
    refine lv_lmul hx hb dX1_get_15 ?_
    refine lv_aload_n hx hb dX1_get_16 rfl (lv_at hl 2 rfl) ?_
    refine lv_iload_n hx hb dX1_get_17 rfl (lv_at hl 3 rfl) ?_
    refine lv_bipush (v := nI 63) hx hb dX1_get_18 (by decide) ?_
    refine lv_iand hx hb dX1_get_20 ?_
    rw [show (nI 63 : Int32) = 63 from rfl, ix_and]
    refine lv_iload hx hb dX1_get_21 (lv_at hl 0 rfl) ?_
    have hFc := mwFree hD hS hA
    refine va_calli (va_runV (As := [.int (nI (ix i)), .int (nI (n))]) (rest := [.long ((2) * (v))]) ⟨hx, hb, hml, hown, hts⟩ (met1_is l D o g cO cB t M (ix i) (n) (ix_lt i) hn64 H.size) (cwV 2 hts (lw_V q99 q101 qs1 q4 q102) rfl rfl rfl (by decide +kernel) ⟨hR.1, hR.2⟩) ⟨fun a U g mk q => ⟨q.1, q.2.calling g mk a⟩, va_recv hK hP (ci := 1) (q0 := 0) rfl rfl, fun U hU hW => ⟨rfl, mwC.give hP hK hD hU hW⟩⟩ rfl rfl hl.1 rfl (lv_room (Nat.le_of_ble_eq_true rfl)) dX1_get_23 hcap) hS (fun q _ h => hFc q h) hFc (fun v0 u t1 H1 locs ht hvm hw hB hz1 hk1 hS => ?_)
    obtain ⟨hP1, hK1, hD1⟩ := hB
    rw [ht] at hP1
    have hP : va_P D vwCl (modelW o g cO cB t M) H1 := hP1
    have hD : va_D A (modelW o g cO cB t M) := hD1.weaken (fun _ _ _ h => hFc _ h)
    have hw : v0 = bI (isv t M (ix i) (n)) := hw
    subst hw
    have tail : W p l e R s m args below meth c H1 locs cells slots Q (F0 m 34 ls [.long (blL (isv t M (ix i) n)), .long (2 * v)]) := by
      refine lv_ladd hx hb dX1_get_34 ?_
      refine lv_lstore_n (lv' := [(2, .long (2 * v + blL (isv t M (ix i) n))), (4, .int (nI n)), (0, .ref o), (1, .int i)]) hx hb dX1_get_35 rfl hl (by decide) rfl (fun ls hl => ?_)
      refine lv_iinc (v := nI n - 1) (lv' := [(4, .int (nI n - 1)), (2, .long (2 * v + blL (isv t M (ix i) n))), (0, .ref o), (1, .int i)]) hx hb dX1_get_36 hl (k := 1) rfl (by rw [Int32.sub_eq_add_neg]; rfl) (by decide) rfl (fun ls hl => ?_)
      refine lv_goto (tgt := 6) hx hb dX1_get_39 (by decide) ?_
      refine ih (by omega) _ H1 locs ls (fun b hb2 => ?_) hP hD hS hl
      rw [lb_dbl _ _ hb2]
      by_cases h : b = 0
      · subst h
        rw [if_pos rfl, Nat.zero_add, decide_eq_true hn64, Bool.true_and]
      · rw [if_neg h, hV (b - 1) (by omega), show b - 1 + (n + 1) = b + n by omega]
    refine lv_if_eq (tgt := 33) hx hb dX1_get_26 (by decide) (fun hc2 => ?_) (fun hc2 => ?_)
    · have hv : isv t M (ix i) n = false := (bI_0 _).mp hc2
      refine lv_lconst (v := blL (isv t M (ix i) n)) hx hb dX1_get_33 (by rw [hv]; decide) ?_
      exact tail
    · have hv : isv t M (ix i) n = true := by
        cases h : isv t M (ix i) n with
        | true => rfl
        | false => exact absurd (by rw [h]; rfl) hc2
      refine lv_lconst (v := blL (isv t M (ix i) n)) hx hb dX1_get_29 (by rw [hv]; decide) ?_
      refine lv_goto (tgt := 34) hx hb dX1_get_30 (by decide) ?_
      exact tail

set_option maxHeartbeats 4000000 in
set_option maxRecDepth 100000 in
/-- get(i) -/
theorem met1_get (l : Launch) (D : mwG) (o g : Nat) (cO cB : ClassId) (t : Bool) (M : Nat → Nat → Bool) (i : Int32) (sz : Nat) : Met l yX1_get (ws_ yX1_get cX1_get 5 (some .long)) ({ frames := 1, cells := 0, slots := 0, locals := 22 })
    (va_Pc [.ref o, .int (i)] (fun U => mwC D (modelW o g cO cB t M) (moTy cO cB) sz U))
    (va_Ql (fun (v : Int64) (_ : Unit) => ∀ b, b < 64 → lb v b = isv t M (ix i) b) (fun _ T => mwE D (va_A (modelW o g cO cB t M) sz) (modelW o g cO cB t M) (moTy cO cB) T) (va_A (modelW o g cO cB t M) sz)) 0 0 (va_A (modelW o g cO cB t M) sz) := by
  refine Met.ofW (cc := cX1_get) (maxL := 5) (ret := (some .long)) (by decide) rfl ?_
  intro p e s m args below meth c s₁ B hml hv
  obtain ⟨rfl, hsz, hP, hK, hD0⟩ := hv
  have hx := B.exec
  have hb := B.bytes
  have hr := B.returns
  have hts := atoms_spec (ws := ws_ yX1_get cX1_get 5 (some .long)) B.pre
  have hts : ∀ w ∈ lw_all, w.before _ s = true := fun w h => hts w (List.mem_cons_of_mem _ h)
  have hown : s.vm.findClass RX1 = some m.cls := findClass_of_methodNamed B.named
  have hlocks := B.notSynchronized
  subst hsz
  have hD := hD0.self (sz := s.heap.size)
  generalize hAe : va_A (modelW o g cO cB t M) s.heap.size = A at hD ⊢
  have hA : ∀ q : Nat, s.heap.size ≤ q → A q := fun q h => by rw [← hAe]; exact Or.inr h
  have hS : va_S A s.heap s.heap [] := va_S.rf
  have hl := lv_entry ([.ref o, .int (i)]) (n := 5) (Nat.le_of_ble_eq_true rfl)
  rw [lg_entry_eq]
  generalize (lg_sl ([.ref o, .int (i)]) ++ List.replicate (5 - (lg_sl ([.ref o, .int (i)])).length) Slot.unset).toArray = ls at hl ⊢
  have hl : lv_has ls 5 [(0, .ref o), (1, .int (i))] := hl
  refine lv_lconst (v := 0) hx hb dX1_get_0 (by decide) ?_
  refine lv_lstore_n (lv' := [(2, .long (0)), (0, .ref o), (1, .int (i))]) hx hb dX1_get_1 rfl hl (by decide) rfl (fun ls hl => ?_)
  refine lv_bipush (v := nI 63) hx hb dX1_get_2 (by decide) ?_
  refine lv_istore (lv' := [(4, .int (nI (63))), (2, .long (0)), (0, .ref o), (1, .int (i))]) hx hb dX1_get_4 hl (by decide) rfl (fun ls hl => ?_)
  rw [show nI 63 = nI 64 - 1 by decide] at hl
  exact get_loop hx hb hml ⟨(Nat.le_of_ble_eq_true rfl), (Nat.le_of_ble_eq_true rfl)⟩ ⟨Nat.zero_le _, Nat.zero_le _⟩ hown hts hA hK (fun v H locs ls hV hP hD hS => W.lret (v := v) hx hb hr (fun t ht hW => ⟨⟨v, (), rfl, hV, mwE.give hP hK hD ht hW⟩, hS.F ht⟩) hS.2.2 dX1_get_43) 64 (Nat.le_refl _) 0 s.heap [] ls (fun b hb2 => by rw [lb_0 b hb2, decide_eq_false (by omega), Bool.false_and]) hP hD hS (lv_sub hl [0, 1, 2, 3] rfl)

set_option maxHeartbeats 4000000 in
set_option maxRecDepth 100000 in
/-- BitSquareDeskModel(): 64 rows of 64 false -/
theorem met1_init (l : Launch) (D : mwG) (o : Nat) (sz : Nat) : Met l yX1_init (ws_ yX1_init cX1_init 1 none) ({ frames := 1, cells := 65, slots := 4160, locals := 12 })
    (va_Pc [.ref o] (fun U => mwC D [(o, .inr (1, [.null, .int 0]))] [] sz U ∧ (Cond.arrayOver (.array .boolean)).before #[] U = true))
    (va_Qv (fun _ : Nat × ClassId × ClassId => True) (fun u T => mwE D (va_A [(o, .inr (1, [.null, .int 0]))] sz) (modelW o u.1 u.2.1 u.2.2 false (fun _ _ => false)) (moTy u.2.1 u.2.2) T) (va_A [(o, .inr (1, [.null, .int 0]))] sz)) 65 4160 (va_A [(o, .inr (1, [.null, .int 0]))] sz) := by
  refine Met.ofW (cc := cX1_init) (maxL := 1) (ret := none) (by decide) rfl ?_
  intro p e s m args below meth c s₁ B hml hv
  obtain ⟨rfl, ⟨hsz, hP, hK, hD0⟩, hov⟩ := hv
  have hx := B.exec
  have hb := B.bytes
  have hr := B.returns
  have hts := atoms_spec (ws := ws_ yX1_init cX1_init 1 none) B.pre
  have hts : ∀ w ∈ lw_all, w.before _ s = true := fun w h => hts w (List.mem_cons_of_mem _ h)
  have hown : s.vm.findClass RX1 = some m.cls := findClass_of_methodNamed B.named
  have hlocks := B.notSynchronized
  have hin : meth.name = "<init>" := (name_of_methodNamed B.named B.method).1
  subst hsz
  have hD := hD0.self (sz := s.heap.size)
  generalize hAe : va_A [(o, .inr (1, [.null, .int 0]))] s.heap.size = A at hD ⊢
  have hA : ∀ q : Nat, s.heap.size ≤ q → A q := fun q h => by rw [← hAe]; exact Or.inr h
  have hS : va_S A s.heap s.heap [] := va_S.rf
  have hl := lv_entry ([.ref o]) (n := 1) (Nat.le_of_ble_eq_true rfl)
  rw [lg_entry_eq]
  generalize (lg_sl ([.ref o]) ++ List.replicate (1 - (lg_sl ([.ref o])).length) Slot.unset).toArray = ls at hl ⊢
  have hl : lv_has ls 1 [(0, .ref o)] := hl
  refine lv_aload_n hx hb dX1_init_0 rfl (lv_at hl 0 rfl) ?_
  refine W.objInit hx hb hown (hts _ q61) (hts _ q13) (hts _ q14) rfl (by rw [hml]; exact hl.1) rfl dX1_init_1 (Nat.le_of_ble_eq_true rfl) (Nat.le_of_ble_eq_true rfl) ?_
  refine W.eq (g2 := F0 m 4 ls []) rfl ?_
  refine lv_aload_n hx hb dX1_init_4 rfl (lv_at hl 0 rfl) ?_
  refine lv_bipush (v := nI 64) hx hb dX1_init_5 (by decide) ?_
  refine lv_bipush (v := nI 64) hx hb dX1_init_7 (by decide) ?_
  refine wm_multi (ty := .boolean) (n := 64) (k := 64) hx hb hown (by rw [show "[" ++ (FieldType.array .boolean).toString = "[[Z" by decide +kernel]; exact hts _ q62) (over_moved (Vm.Alike.refl _) hov) (hts _ q71) (Nat.le_of_ble_eq_true rfl) (Nat.le_of_ble_eq_true rfl) (Nat.le_of_ble_eq_true rfl) rfl rfl (Nat.le_of_ble_eq_true rfl) (Nat.le_of_ble_eq_true rfl) dX1_init_9 (fun cO cB H1 a1 n1 a2 n2 hz ho h1 h2 => ?_)
  obtain ⟨hP, hD⟩ := mw_born hP hD hA hz ho h1 h2
  have hK : va_K D vwCl (moTy cO cB) s := by
    refine ⟨hK.1, fun k q hk => ?_⟩
    match k, hk with
    | 0, hk => cases hk; exact ⟨a1, n1⟩
    | 1, hk => cases hk; exact ⟨a2, n2⟩
    | k + 2, hk => simp at hk
  have hS : va_S A s.heap H1 [] := ⟨by omega, fun q h1 _ => ho q h1, fun _ h => by cases h⟩
  generalize s.heap.size = g at hP hD ⊢
  refine va_putF (D := D) (ci := 1) (v := .ref g) (ty := .array (.array .boolean)) (C := RX1) (T := TX1) (N := 2) hx hb hts in_X1 tyX1 tyX1_ok nmX1 hown hK hP hD hS 0 rfl rfl 0 (by decide) (hts _ q64) (fun _ h9 => h9) rfl hin rfl (by decide +kernel) rfl rfl (Nat.le_of_ble_eq_true rfl) dX1_init_13 (fun H locs hP hD hS => ?_)
  refine W.widen (k := 65) (n := 4160) (Nat.le_of_ble_eq_true rfl) (Nat.le_of_ble_eq_true rfl) ?_
  exact W.vret hx hb hr (fun t ht hW => ⟨⟨(g, cO, cB), rfl, trivial, mwE.give (ws := modelW o g cO cB false (fun _ _ => false)) hP hK hD ht hW⟩, hS.F ht⟩) hS.2.2 dX1_init_16
end
section
-- ===== end of PART A; then your names; then what follows =====
/-! THE CLAIM OUT OF ONE WALK OF THE LAW'S BODY. Your part is whole_start (and what it stands on); all else here is the same for every law, but numbers. -/
def R_law : String := "BitSquareDeskLaw"
def lw_P (b : Addr) (xs : List Int32) (args : Array Value) (s : State) : Prop := args = #[.ref b] ∧ s.IntsAt b xs ∧ xs.length ≤ 288 ∧ (Jvm.Cond.and given_1 narrow_1).before args s = true
def lw_Q (_ : Array Value) (s : State) (o : Outcome) (t : State) : Prop := o = .returned (some (.int 1)) ∧ Framed s o t [] 1200000 5502250
def lw_Z (below : List Frame) (a : Array Value) (s : State) : State → Prop := fun t => ∃ o, t.status = .running ∧ Ended t below o ∧ lw_Q a s o t
/-- the law's own end, with 1 on the stack, nothing written that was there before, its room as the claim has it -/
theorem lw_ret {p : Program} {l : Launch} {e : Env} {s : State} {m : MethodId} {below : List Frame} {meth : Method} {c : Code} {b : Nat} (hx : p.tables.exec = Jvm.exec) (hb : c.code = code) (hr : meth.sig.returnType = ret) (hlocks : meth.locks = false) {pc : Nat} {H : Heap} {ls : Array Slot} (hdg : decode code pc = .ok (.ireturn, 1)) : W p l e room_1 s m #[Value.ref b] below meth c H [] 1200000 5502250 (lw_Z below #[Value.ref b] s) (F0 m pc ls [.int 1]) := by
  intro T hT X
  obtain ⟨fs, hret, hrun, hended, hW, hframe⟩ := X.leave (v := some (.int 1)) (hlocks := hlocks) (fun h => by rw [hr] at h; cases h)
  have hmeth' : T.vm.method? m = some meth := X.method'
  refine ⟨T.setFrames fs, ?_, .returned (some (.int 1)), hrun, hended, rfl, ⟨_, rfl⟩, hW, hframe⟩
  jvm_step X.here [X.here.top, hx, hb, hdg, hmeth', hr, ret, narrow_b1]
  (try refine ⟨rfl, ?_⟩); (try refine ⟨rfl, ?_⟩)
  first | (intro acts; rw [hret _ acts rfl rfl rfl]) | rw [hret _ _ rfl rfl rfl]
  exact Steps.refl _
/-- what holds at the law's entry: the machine, the code, the tables' words (any of lw_tbl by 'hts w (by decide +kernel)'), the script of L ints xs at the cell b, what the Statement gives of the start (any of its parts by flat_of_before) -/
def lw_At (p : Program) (s : State) (m : MethodId) (meth : Method) (c : Code) (b L : Nat) (xs : Nat → Int32) : Prop :=
  p.tables.exec = Jvm.exec ∧ c.code = code ∧ meth.sig.returnType = ret ∧ c.maxLocals = 4 ∧ s.vm.findClass R_law = some m.cls ∧ (∀ w ∈ lw_tbl, w.before #[Value.ref b] s = true) ∧ va_X b L xs s s.heap ∧ b < s.heap.size ∧ meth.locks = false ∧ (Jvm.Cond.and given_1 narrow_1).before #[Value.ref b] s = true

/-! THE LAW: its world is the desk's and the model's; the script is read, never written -/
def lawA (s : State) : Nat → Prop := fun q => s.heap.size ≤ q
abbrev lawW (x r : Nat) (cL : ClassId) (f : Nat → Int64) (o g : Nat) (cO cB : ClassId) (t : Bool) (M : Nat → Nat → Bool) : va_W := deskW x r cL f ++ modelW o g cO cB t M
abbrev lawTy (cL cO cB : ClassId) : mwTy := (cL, .long) :: moTy cO cB
section LS
variable {p : Program} {l : Launch} {e : Env} {R : Room} {s : State} {m : MethodId} {args : Array Value} {below : List Frame} {meth : Method} {c : Code} {H : Heap} {locs : List Loc} {cells slots : Nat} {Q : State → Prop}
variable {cc : ByteArray} {pc : Nat} {ls : Array Slot} {rest : List Value} {A : Nat → Prop} {H0 : Heap}
theorem wm_sld (hx : p.tables.exec = Jvm.exec) (hb : c.code = cc) {b L : Nat} {xs : Nat → Int32} (hX : va_X b L xs s H0) (hbl : b < H0.size) (hbA : ¬ A b) (hS : va_S A H0 H locs) {i : Nat} (hi : i < L) (hL : L < 2 ^ 31) (hdg : decode cc pc = .ok (.iaload, 1))
    (kk : W p l e R s m args below meth c H locs cells slots Q (F0 m (pc + 1) ls (.int (xs i) :: rest))) : W p l e R s m args below meth c H locs cells slots Q (F0 m pc ls (.int (nI i) :: .ref b :: rest)) := by
  refine va_sld hx hb hX hbl hbA hS (vp_in_nI hi hL) hdg ?_
  rw [nI_clamp (by omega)]
  exact kk
end LS
/-- the masks, from what the Statement gives of the start -/
theorem law_T {s : State} {b : Nat} (hgv : (Jvm.Cond.and given_1 narrow_1).before #[Value.ref b] s = true) (hl : (Cond.laysStatic "BENES" "TRANSPOSE_MASKS" "[J").before #[Value.ref b] s = true) (hini : (Cond.initialized "BENES").before #[Value.ref b] s = true) : ∃ t : Nat, mwT (lawA s) t s := by
  have hs := flat_of_before _ hgv
  have hA : ∀ a : Nat, a < s.heap.size → ¬ lawA s a := fun a h z => Nat.not_lt.mpr z h
  have h0 : (Cond.arrayOf (.static "BENES" "TRANSPOSE_MASKS" "[J") .long).before #[Value.ref b] s = true := hs _ (by decide +kernel)
  have h1 : (Cond.eq (.length (.static "BENES" "TRANSPOSE_MASKS" "[J")) (.int 6)).before #[Value.ref b] s = true := hs _ (by decide +kernel)
  have e0 : (Cond.eq (.elem (.static "BENES" "TRANSPOSE_MASKS" "[J") (.int 0)) (.long 6148914691236517205)).before #[Value.ref b] s = true := hs _ (by decide +kernel)
  have e1 : (Cond.eq (.elem (.static "BENES" "TRANSPOSE_MASKS" "[J") (.int 1)) (.long 3689348814741910323)).before #[Value.ref b] s = true := hs _ (by decide +kernel)
  have e2 : (Cond.eq (.elem (.static "BENES" "TRANSPOSE_MASKS" "[J") (.int 2)) (.long 1085102592571150095)).before #[Value.ref b] s = true := hs _ (by decide +kernel)
  have e3 : (Cond.eq (.elem (.static "BENES" "TRANSPOSE_MASKS" "[J") (.int 3)) (.long 71777214294589695)).before #[Value.ref b] s = true := hs _ (by decide +kernel)
  have e4 : (Cond.eq (.elem (.static "BENES" "TRANSPOSE_MASKS" "[J") (.int 4)) (.long 281470681808895)).before #[Value.ref b] s = true := hs _ (by decide +kernel)
  have e5 : (Cond.eq (.elem (.static "BENES" "TRANSPOSE_MASKS" "[J") (.int 5)) (.long 4294967295)).before #[Value.ref b] s = true := hs _ (by decide +kernel)
  obtain ⟨t, ht, hT⟩ := va_Tof (N := 6) (f := mkV) (A := lawA s) (by decide) h0 (va_eqt h1) (fun j hj => by
    rcases (show j = 0 ∨ j = 1 ∨ j = 2 ∨ j = 3 ∨ j = 4 ∨ j = 5 by omega) with h | h | h | h | h | h <;> subst h
    · exact va_eqtl e0
    · exact va_eqtl e1
    · exact va_eqtl e2
    · exact va_eqtl e3
    · exact va_eqtl e4
    · exact va_eqtl e5) hA
  exact ⟨t, va_Zref hl hini ht hA, hT⟩

set_option maxHeartbeats 4000000 in
set_option maxRecDepth 100000 in
/-- the law's loop at its head: k turns made -/
theorem law_loop {p : Program} {l : Launch} {e : Env} {s : State} {m : MethodId} {below : List Frame} {meth : Method} {c : Code} {b L : Nat} {xs : Nat → Int32} (hL : L ≤ 288) (C0 : lw_At p s m meth c b L xs) {D : mwG} {tb : Nat} (hT : mwT (lawA s) tb s) {x o g : Nat} {cO cB : ClassId} :
    ∀ (n k : Nat), k ≤ 48 → 48 < k + n → ∀ (r : Nat) (cL : ClassId) (f : Nat → Int64) (t : Bool) (M : Nat → Nat → Bool) (H : Heap) (locs : List Loc) (ls : Array Slot), (∀ a, a < 64 → ∀ b, b < 64 → lb (f a) b = isv t M a b) → va_K D vwCl (lawTy cL cO cB) s → va_P D vwCl (lawW x r cL f o g cO cB t M) H → va_D (lawA s) (lawW x r cL f o g cO cB t M) → va_S (lawA s) s.heap H locs → lv_has ls 4 [(0, .ref b), (1, .ref x), (2, .ref o), (3, .int (nI (6 * k)))] →
      W p l e room_1 s m #[Value.ref b] below meth c H locs (68 + k) (4227 + 64 * k) (lw_Z below #[Value.ref b] s) (F0 m 18 ls []) := by
  obtain ⟨hx, hb, hr, hml, hown, hts0, hX, hbl, hlocks, hgv⟩ := C0
  have hts : ∀ w ∈ lw_all, w.before #[Value.ref b] s = true := fun w h => hts0 w (lw_all_tbl h)
  have hA : ∀ q : Nat, s.heap.size ≤ q → lawA s q := fun q h => h
  have hbA : ¬ lawA s b := Nat.not_le.mpr hbl
  have hL31 : L < 2 ^ 31 := by omega
  intro n
  induction n with
  | zero =>
    intro k h1 h2
    omega
  | succ n ih =>
    intro k hk hn r cL f t M H locs ls hV hK hP hD hS hl
    refine lv_iload_n hx hb dL_law_18 rfl (lv_at hl 3 rfl) ?_
    refine lv_aload_n hx hb dL_law_19 rfl (lv_at hl 0 rfl) ?_
    refine va_slen hx hb hX hbl hbA hS dL_law_20 ?_
    refine lv_bipush (v := nI 6) hx hb dL_law_21 (by decide) ?_
    refine lv_isub hx hb dL_law_23 ?_
    refine lv_icmp_gt (tgt := 224) hx hb dL_law_24 (by decide) (fun hc => ?_) (fun hc => ?_)
    · refine lv_iconst (v := 1) hx hb dL_law_224 (by decide) ?_
      refine va_forget (fun q hq => hS.2.2 q hq) ?_
      refine W.widen (k := 1200000) (n := 5502250) (by omega) (by omega) ?_
      exact lw_ret hx hb hr hlocks dL_law_225
    · have h6 : 6 * k + 6 ≤ L := law_in hL (by omega) hc
      have hk1 : k + 1 ≤ 48 := by omega
      have tail : ∀ (r : Nat) (cL : ClassId) (f : Nat → Int64) (t : Bool) (M : Nat → Nat → Bool) (H : Heap) (locs : List Loc) (ls : Array Slot), (∀ a, a < 64 → ∀ b, b < 64 → lb (f a) b = isv t M a b) → va_K D vwCl (lawTy cL cO cB) s → va_P D vwCl (lawW x r cL f o g cO cB t M) H → va_D (lawA s) (lawW x r cL f o g cO cB t M) → va_S (lawA s) s.heap H locs → lv_has ls 4 [(0, .ref b), (1, .ref x), (2, .ref o), (3, .int (nI (6 * k)))] → W p l e room_1 s m #[Value.ref b] below meth c H locs (68 + (k + 1)) (4227 + 64 * (k + 1)) (lw_Z below #[Value.ref b] s) (F0 m 218 ls []) := by
        intro r cL f t M H locs ls hV hK hP hD hS hl
        refine lv_iinc (v := nI (6 * (k + 1))) (lv' := [(3, .int (nI (6 * (k + 1)))), (0, .ref b), (1, .ref x), (2, .ref o)]) hx hb dL_law_218 hl (k := 3) rfl (by rw [nI_inc (6 * k) 6 _ (by decide), Nat.mul_succ]) (by decide) rfl (fun ls hl => ?_)
        refine lv_goto (tgt := 18) hx hb dL_law_221 (by decide) ?_
        exact ih (k + 1) hk1 (by omega) r cL f t M H locs ls hV hK hP hD hS (lv_sub hl [1, 2, 3, 0] rfl)
      refine lv_aload_n hx hb dL_law_27 rfl (lv_at hl 0 rfl) ?_
      refine lv_iload_n hx hb dL_law_28 rfl (lv_at hl 3 rfl) ?_
      refine wm_sld hx hb hX hbl hbA hS (by omega) hL31 dL_law_29 ?_
      refine lv_bipush (v := nI 7) hx hb dL_law_30 (by decide) ?_
      refine lv_iand hx hb dL_law_32 ?_
      obtain ⟨z, hz, ez⟩ := pk_andE (xs (6 * k)) (m := nI 7) 3 (by decide +kernel)
      rw [ez]
      rcases (show z = 0 ∨ z = 1 ∨ z = 2 ∨ z = 3 ∨ z = 4 ∨ 5 ≤ z by omega) with h | h | h | h | h | h
      · subst h
        refine lv_tableIn (off := 35) (tgt := 68) hx hb dL_law_33 (by decide) (by decide) (by decide +kernel) (by decide) ?_
        refine lv_aload_n hx hb dL_law_68 rfl (lv_at hl 1 rfl) ?_
        refine lv_aload_n hx hb dL_law_69 rfl (lv_at hl 0 rfl) ?_
        refine lv_iload_n hx hb dL_law_70 rfl (lv_at hl 3 rfl) ?_
        refine lv_iconst (v := nI 1) hx hb dL_law_71 (by decide) ?_
        refine wm_iadd hx hb dL_law_72 ?_
        refine wm_sld hx hb hX hbl hbA hS (by omega) hL31 dL_law_73 ?_
        refine lv_aload_n hx hb dL_law_74 rfl (lv_at hl 0 rfl) ?_
        refine lv_iload_n hx hb dL_law_75 rfl (lv_at hl 3 rfl) ?_
        refine lv_iconst (v := nI 2) hx hb dL_law_76 (by decide) ?_
        refine wm_iadd hx hb dL_law_77 ?_
        refine wm_sld hx hb hX hbl hbA hS (by omega) hL31 dL_law_78 ?_
        refine lv_aload_n hx hb dL_law_79 rfl (lv_at hl 0 rfl) ?_
        refine lv_iload_n hx hb dL_law_80 rfl (lv_at hl 3 rfl) ?_
        refine lv_iconst (v := nI 3) hx hb dL_law_81 (by decide) ?_
        refine wm_iadd hx hb dL_law_82 ?_
        refine wm_sld hx hb hX hbl hbA hS (by omega) hL31 dL_law_83 ?_
        have hPd := mwL hP
        have hDd := mwDL hD
        have hKd := hK.sub (tys' := [(cL, .long)]) [0] rfl
        have hFd := mwFree hDd hS hA
        refine va_callv (va_runV (As := [.int (xs (6 * k + 1)), .int (xs (6 * k + 2)), .int (xs (6 * k + 3))]) (rest := []) ⟨hx, hb, hml, hown, hts⟩ (met0_set l D x r cL f (xs (6 * k + 1)) (xs (6 * k + 2)) (xs (6 * k + 3)) H.size) (cwV 3 hts (lw_V q20 q21 q22 q3 q23) rfl rfl rfl (by decide +kernel) ⟨(Nat.le_of_ble_eq_true rfl), (Nat.le_of_ble_eq_true rfl)⟩) ⟨fun a U g mk q => ⟨q.1, q.2.calling g mk a⟩, va_recv hKd hPd (ci := 0) (q0 := 0) rfl rfl, fun U hU hW => ⟨rfl, mwC.give hPd hKd hDd hU hW⟩⟩ rfl rfl hl.1 rfl (lv_room (Nat.le_of_ble_eq_true rfl)) dL_law_84 ⟨by show _ ≤ 1200000; omega, by show _ ≤ 5502250; omega⟩) hS (fun q _ h => hFd q h) hFd (fun A tA HA locs ht hvm hw1 hB hz1 hk2 hS => ?_)
        obtain ⟨hP1, hK1, hD1⟩ := hB
        rw [ht] at hP1
        obtain ⟨hP, hD⟩ := mwJoinL hP hD hk2 hFd hP1 hD1
        refine lv_aload_n hx hb dL_law_87 rfl (lv_at hl 2 rfl) ?_
        refine lv_aload_n hx hb dL_law_88 rfl (lv_at hl 0 rfl) ?_
        refine lv_iload_n hx hb dL_law_89 rfl (lv_at hl 3 rfl) ?_
        refine lv_iconst (v := nI 1) hx hb dL_law_90 (by decide) ?_
        refine wm_iadd hx hb dL_law_91 ?_
        refine wm_sld hx hb hX hbl hbA hS (by omega) hL31 dL_law_92 ?_
        refine lv_aload_n hx hb dL_law_93 rfl (lv_at hl 0 rfl) ?_
        refine lv_iload_n hx hb dL_law_94 rfl (lv_at hl 3 rfl) ?_
        refine lv_iconst (v := nI 2) hx hb dL_law_95 (by decide) ?_
        refine wm_iadd hx hb dL_law_96 ?_
        refine wm_sld hx hb hX hbl hbA hS (by omega) hL31 dL_law_97 ?_
        refine lv_aload_n hx hb dL_law_98 rfl (lv_at hl 0 rfl) ?_
        refine lv_iload_n hx hb dL_law_99 rfl (lv_at hl 3 rfl) ?_
        refine lv_iconst (v := nI 3) hx hb dL_law_100 (by decide) ?_
        refine wm_iadd hx hb dL_law_101 ?_
        refine wm_sld hx hb hX hbl hbA hS (by omega) hL31 dL_law_102 ?_
        have hPd := mwR hP
        have hDd := mwDR hD
        have hKd := hK.sub (tys' := moTy cO cB) [1, 2] rfl
        have hFd := mwFree hDd hS hA
        refine va_callv (va_runV (As := [.int (xs (6 * k + 1)), .int (xs (6 * k + 2)), .int (xs (6 * k + 3))]) (rest := []) ⟨hx, hb, hml, hown, hts⟩ (met1_set l D o g cO cB t M (xs (6 * k + 1)) (xs (6 * k + 2)) (xs (6 * k + 3)) HA.size) (cwV 3 hts (lw_V q72 q73 q74 q4 q75) rfl rfl rfl (by decide +kernel) ⟨(Nat.le_of_ble_eq_true rfl), (Nat.le_of_ble_eq_true rfl)⟩) ⟨fun a U g mk q => ⟨q.1, q.2.calling g mk a⟩, va_recv hKd hPd (ci := 1) (q0 := 0) rfl rfl, fun U hU hW => ⟨rfl, mwC.give hPd hKd hDd hU hW⟩⟩ rfl rfl hl.1 rfl (lv_room (Nat.le_of_ble_eq_true rfl)) dL_law_103 ⟨by show _ ≤ 1200000; omega, by show _ ≤ 5502250; omega⟩) hS (fun q _ h => hFd q h) hFd (fun N tN HN locs ht hvm hw2 hB hz1 hk2 hS => ?_)
        obtain ⟨hP1, hK1, hD1⟩ := hB
        rw [ht] at hP1
        obtain ⟨hP, hD⟩ := mwJoinR hP hD hk2 hFd hP1 hD1
        refine lv_goto (tgt := 218) hx hb dL_law_106 (by decide) ?_
        refine W.widen (k := 68 + (k + 1)) (n := 4227 + 64 * (k + 1)) (by omega) (by omega) ?_
        refine tail r cL A t N HN locs ls (fun a ha b hb2 => ?_) hK hP hD hS hl
        rw [hw2 a ha b hb2]
        rw [show A = _ from hw1]
        unfold vp_updL
        by_cases h : a = ix (xs (6 * k + 1))
        · rw [if_pos h, if_pos h]
        · rw [if_neg h, if_neg h]
          exact hV a ha b hb2
      · subst h
        refine lv_tableIn (off := 76) (tgt := 109) hx hb dL_law_33 (by decide) (by decide) (by decide +kernel) (by decide) ?_
        refine lv_aload_n hx hb dL_law_109 rfl (lv_at hl 1 rfl) ?_
        refine lv_aload_n hx hb dL_law_110 rfl (lv_at hl 0 rfl) ?_
        refine lv_iload_n hx hb dL_law_111 rfl (lv_at hl 3 rfl) ?_
        refine lv_iconst (v := nI 1) hx hb dL_law_112 (by decide) ?_
        refine wm_iadd hx hb dL_law_113 ?_
        refine wm_sld hx hb hX hbl hbA hS (by omega) hL31 dL_law_114 ?_
        refine lv_aload_n hx hb dL_law_115 rfl (lv_at hl 0 rfl) ?_
        refine lv_iload_n hx hb dL_law_116 rfl (lv_at hl 3 rfl) ?_
        refine lv_iconst (v := nI 2) hx hb dL_law_117 (by decide) ?_
        refine wm_iadd hx hb dL_law_118 ?_
        refine wm_sld hx hb hX hbl hbA hS (by omega) hL31 dL_law_119 ?_
        refine lv_aload_n hx hb dL_law_120 rfl (lv_at hl 0 rfl) ?_
        refine lv_iload_n hx hb dL_law_121 rfl (lv_at hl 3 rfl) ?_
        refine lv_iconst (v := nI 3) hx hb dL_law_122 (by decide) ?_
        refine wm_iadd hx hb dL_law_123 ?_
        refine wm_sld hx hb hX hbl hbA hS (by omega) hL31 dL_law_124 ?_
        have hPd := mwL hP
        have hDd := mwDL hD
        have hKd := hK.sub (tys' := [(cL, .long)]) [0] rfl
        have hFd := mwFree hDd hS hA
        refine va_callv (va_runV (As := [.int (xs (6 * k + 1)), .int (xs (6 * k + 2)), .int (xs (6 * k + 3))]) (rest := []) ⟨hx, hb, hml, hown, hts⟩ (met0_spread l D x r cL f (xs (6 * k + 1)) (xs (6 * k + 2)) (xs (6 * k + 3)) H.size) (cwV 3 hts (lw_V q28 q29 q30 q3 q31) rfl rfl rfl (by decide +kernel) ⟨(Nat.le_of_ble_eq_true rfl), (Nat.le_of_ble_eq_true rfl)⟩) ⟨fun a U g mk q => ⟨q.1, q.2.calling g mk a⟩, va_recv hKd hPd (ci := 0) (q0 := 0) rfl rfl, fun U hU hW => ⟨rfl, mwC.give hPd hKd hDd hU hW⟩⟩ rfl rfl hl.1 rfl (lv_room (Nat.le_of_ble_eq_true rfl)) dL_law_125 ⟨by show _ ≤ 1200000; omega, by show _ ≤ 5502250; omega⟩) hS (fun q _ h => hFd q h) hFd (fun A tA HA locs ht hvm hw1 hB hz1 hk2 hS => ?_)
        obtain ⟨hP1, hK1, hD1⟩ := hB
        rw [ht] at hP1
        obtain ⟨hP, hD⟩ := mwJoinL hP hD hk2 hFd hP1 hD1
        refine lv_aload_n hx hb dL_law_128 rfl (lv_at hl 2 rfl) ?_
        refine lv_aload_n hx hb dL_law_129 rfl (lv_at hl 0 rfl) ?_
        refine lv_iload_n hx hb dL_law_130 rfl (lv_at hl 3 rfl) ?_
        refine lv_iconst (v := nI 1) hx hb dL_law_131 (by decide) ?_
        refine wm_iadd hx hb dL_law_132 ?_
        refine wm_sld hx hb hX hbl hbA hS (by omega) hL31 dL_law_133 ?_
        refine lv_aload_n hx hb dL_law_134 rfl (lv_at hl 0 rfl) ?_
        refine lv_iload_n hx hb dL_law_135 rfl (lv_at hl 3 rfl) ?_
        refine lv_iconst (v := nI 2) hx hb dL_law_136 (by decide) ?_
        refine wm_iadd hx hb dL_law_137 ?_
        refine wm_sld hx hb hX hbl hbA hS (by omega) hL31 dL_law_138 ?_
        refine lv_aload_n hx hb dL_law_139 rfl (lv_at hl 0 rfl) ?_
        refine lv_iload_n hx hb dL_law_140 rfl (lv_at hl 3 rfl) ?_
        refine lv_iconst (v := nI 3) hx hb dL_law_141 (by decide) ?_
        refine wm_iadd hx hb dL_law_142 ?_
        refine wm_sld hx hb hX hbl hbA hS (by omega) hL31 dL_law_143 ?_
        have hPd := mwR hP
        have hDd := mwDR hD
        have hKd := hK.sub (tys' := moTy cO cB) [1, 2] rfl
        have hFd := mwFree hDd hS hA
        refine va_callv (va_runV (As := [.int (xs (6 * k + 1)), .int (xs (6 * k + 2)), .int (xs (6 * k + 3))]) (rest := []) ⟨hx, hb, hml, hown, hts⟩ (met1_spread l D o g cO cB t M (xs (6 * k + 1)) (xs (6 * k + 2)) (xs (6 * k + 3)) HA.size) (cwV 3 hts (lw_V q85 q86 q87 q4 q88) rfl rfl rfl (by decide +kernel) ⟨(Nat.le_of_ble_eq_true rfl), (Nat.le_of_ble_eq_true rfl)⟩) ⟨fun a U g mk q => ⟨q.1, q.2.calling g mk a⟩, va_recv hKd hPd (ci := 1) (q0 := 0) rfl rfl, fun U hU hW => ⟨rfl, mwC.give hPd hKd hDd hU hW⟩⟩ rfl rfl hl.1 rfl (lv_room (Nat.le_of_ble_eq_true rfl)) dL_law_144 ⟨by show _ ≤ 1200000; omega, by show _ ≤ 5502250; omega⟩) hS (fun q _ h => hFd q h) hFd (fun N tN HN locs ht hvm hw2 hB hz1 hk2 hS => ?_)
        obtain ⟨hP1, hK1, hD1⟩ := hB
        rw [ht] at hP1
        obtain ⟨hP, hD⟩ := mwJoinR hP hD hk2 hFd hP1 hD1
        refine lv_goto (tgt := 218) hx hb dL_law_147 (by decide) ?_
        refine W.widen (k := 68 + (k + 1)) (n := 4227 + 64 * (k + 1)) (by omega) (by omega) ?_
        refine tail r cL A t N HN locs ls (fun a ha b hb2 => ?_) hK hP hD hS hl
        rw [hw2 a ha b hb2, hw1 a ha]
      · subst h
        refine lv_tableIn (off := 117) (tgt := 150) hx hb dL_law_33 (by decide) (by decide) (by decide +kernel) (by decide) ?_
        refine lv_aload_n hx hb dL_law_150 rfl (lv_at hl 1 rfl) ?_
        have hPd := mwL hP
        have hDd := mwDL hD
        have hKd := hK.sub (tys' := [(cL, .long)]) [0] rfl
        have hFd := mwFree hDd hS hA
        refine va_callv (va_runV (As := []) (rest := []) ⟨hx, hb, hml, hown, hts⟩ (met0_turn l D x r cL f tb H.size) (cwV 0 hts (lw_V q33 q34 q35 q3 q36) rfl rfl rfl (by decide +kernel) ⟨(Nat.le_of_ble_eq_true rfl), (Nat.le_of_ble_eq_true rfl)⟩) ⟨fun a U g mk q => ⟨q.1, q.2.1.calling g mk a, q.2.2.calling g mk a⟩, va_recv hKd hPd (ci := 0) (q0 := 0) rfl rfl, fun U hU hW => ⟨rfl, mwC.give hPd hKd hDd hU hW, hT.give hS hFd hU hW⟩⟩ rfl rfl hl.1 rfl (lv_room (Nat.le_of_ble_eq_true rfl)) dL_law_151 ⟨by show _ ≤ 1200000; omega, by show _ ≤ 5502250; omega⟩) hS (fun q _ h => hFd q h) hFd (fun A tA HA locs ht hvm hw1 hB hz1 hk2 hS => ?_)
        obtain ⟨hP1, hK1, hD1⟩ := hB
        rw [ht] at hP1
        obtain ⟨hP, hD⟩ := mwJoinL hP hD hk2 hFd hP1 hD1
        obtain ⟨f2, z2, cz⟩ := A
        have hK : va_K D vwCl (lawTy cz cO cB) s := (va_K.moved hvm.symm hK1).app (hK.sub (tys' := moTy cO cB) [1, 2] rfl)
        have hP : va_P D vwCl (lawW x z2 cz f2 o g cO cB t M) HA := hP
        have hD : va_D (lawA s) (lawW x z2 cz f2 o g cO cB t M) := hD
        refine lv_aload_n hx hb dL_law_154 rfl (lv_at hl 2 rfl) ?_
        have hPd := mwR hP
        have hDd := mwDR hD
        have hKd := hK.sub (tys' := moTy cO cB) [1, 2] rfl
        have hFd := mwFree hDd hS hA
        refine va_callv (va_runV (As := []) (rest := []) ⟨hx, hb, hml, hown, hts⟩ (met1_turn l D o g cO cB t M HA.size) (cwV 0 hts (lw_V q90 q91 q92 q4 q93) rfl rfl rfl (by decide +kernel) ⟨(Nat.le_of_ble_eq_true rfl), (Nat.le_of_ble_eq_true rfl)⟩) ⟨fun a U g mk q => ⟨q.1, q.2.calling g mk a⟩, va_recv hKd hPd (ci := 1) (q0 := 0) rfl rfl, fun U hU hW => ⟨rfl, mwC.give hPd hKd hDd hU hW⟩⟩ rfl rfl hl.1 rfl (lv_room (Nat.le_of_ble_eq_true rfl)) dL_law_155 ⟨by show _ ≤ 1200000; omega, by show _ ≤ 5502250; omega⟩) hS (fun q _ h => hFd q h) hFd (fun N tN HN locs ht hvm hw2 hB hz1 hk2 hS => ?_)
        obtain ⟨hP1, hK1, hD1⟩ := hB
        rw [ht] at hP1
        obtain ⟨hP, hD⟩ := mwJoinR hP hD hk2 hFd hP1 hD1
        refine lv_goto (tgt := 218) hx hb dL_law_158 (by decide) ?_
        have hP : va_P D vwCl (lawW x z2 cz f2 o g cO cB (!t) M) HN := hP
        have hD : va_D (lawA s) (lawW x z2 cz f2 o g cO cB (!t) M) := hD
        refine W.widen (k := 68 + (k + 1)) (n := 4227 + 64 * (k + 1)) (by omega) (by omega) ?_
        refine tail z2 cz f2 (!t) M HN locs ls (fun a ha b hb2 => ?_) hK hP hD hS hl
        rw [hw1 a ha b hb2, hV b hb2 a ha]
        cases t <;> rfl
      · subst h
        refine lv_tableIn (off := 128) (tgt := 161) hx hb dL_law_33 (by decide) (by decide) (by decide +kernel) (by decide) ?_
        refine lv_aload_n hx hb dL_law_161 rfl (lv_at hl 1 rfl) ?_
        refine lv_aload_n hx hb dL_law_162 rfl (lv_at hl 0 rfl) ?_
        refine lv_iload_n hx hb dL_law_163 rfl (lv_at hl 3 rfl) ?_
        refine lv_iconst (v := nI 1) hx hb dL_law_164 (by decide) ?_
        refine wm_iadd hx hb dL_law_165 ?_
        refine wm_sld hx hb hX hbl hbA hS (by omega) hL31 dL_law_166 ?_
        have hPd := mwL hP
        have hDd := mwDL hD
        have hKd := hK.sub (tys' := [(cL, .long)]) [0] rfl
        have hFd := mwFree hDd hS hA
        refine va_calll (va_runV (As := [.int (xs (6 * k + 1))]) (rest := []) ⟨hx, hb, hml, hown, hts⟩ (met0_get l D x r cL f (xs (6 * k + 1)) H.size) (cwV 1 hts (lw_V q48 q49 q50 q3 q51) rfl rfl rfl (by decide +kernel) ⟨(Nat.le_of_ble_eq_true rfl), (Nat.le_of_ble_eq_true rfl)⟩) ⟨fun a U g mk q => ⟨q.1, q.2.calling g mk a⟩, va_recv hKd hPd (ci := 0) (q0 := 0) rfl rfl, fun U hU hW => ⟨rfl, mwC.give hPd hKd hDd hU hW⟩⟩ rfl rfl hl.1 rfl (lv_room (Nat.le_of_ble_eq_true rfl)) dL_law_167 ⟨by show _ ≤ 1200000; omega, by show _ ≤ 5502250; omega⟩) hS (fun q _ h => hFd q h) hFd (fun vA uA tA HA locs ht hvm hw1 hB hz1 hk2 hS => ?_)
        obtain ⟨hP1, hK1, hD1⟩ := hB
        rw [ht] at hP1
        obtain ⟨hP, hD⟩ := mwJoinL hP hD hk2 hFd hP1 hD1
        have hP : va_P D vwCl (lawW x r cL f o g cO cB t M) HA := hP
        have hD : va_D (lawA s) (lawW x r cL f o g cO cB t M) := hD
        refine lv_aload_n hx hb dL_law_170 rfl (lv_at hl 2 rfl) ?_
        refine lv_aload_n hx hb dL_law_171 rfl (lv_at hl 0 rfl) ?_
        refine lv_iload_n hx hb dL_law_172 rfl (lv_at hl 3 rfl) ?_
        refine lv_iconst (v := nI 1) hx hb dL_law_173 (by decide) ?_
        refine wm_iadd hx hb dL_law_174 ?_
        refine wm_sld hx hb hX hbl hbA hS (by omega) hL31 dL_law_175 ?_
        have hPd := mwR hP
        have hDd := mwDR hD
        have hKd := hK.sub (tys' := moTy cO cB) [1, 2] rfl
        have hFd := mwFree hDd hS hA
        refine va_calll (va_runV (As := [.int (xs (6 * k + 1))]) (rest := [.long (vA)]) ⟨hx, hb, hml, hown, hts⟩ (met1_get l D o g cO cB t M (xs (6 * k + 1)) HA.size) (cwV 1 hts (lw_V q94 q95 q96 q4 q97) rfl rfl rfl (by decide +kernel) ⟨(Nat.le_of_ble_eq_true rfl), (Nat.le_of_ble_eq_true rfl)⟩) ⟨fun a U g mk q => ⟨q.1, q.2.calling g mk a⟩, va_recv hKd hPd (ci := 1) (q0 := 0) rfl rfl, fun U hU hW => ⟨rfl, mwC.give hPd hKd hDd hU hW⟩⟩ rfl rfl hl.1 rfl (lv_room (Nat.le_of_ble_eq_true rfl)) dL_law_176 ⟨by show _ ≤ 1200000; omega, by show _ ≤ 5502250; omega⟩) hS (fun q _ h => hFd q h) hFd (fun vN uN tN HN locs ht hvm hw2 hB hz1 hk2 hS => ?_)
        obtain ⟨hP1, hK1, hD1⟩ := hB
        rw [ht] at hP1
        obtain ⟨hP, hD⟩ := mwJoinR hP hD hk2 hFd hP1 hD1
        have hP : va_P D vwCl (lawW x r cL f o g cO cB t M) HN := hP
        have hD : va_D (lawA s) (lawW x r cL f o g cO cB t M) := hD
        refine W.lcmp hx hb dL_law_179 ?_
        have ev : vA = vN := lb_ext (fun b hb2 => by rw [show vA = _ from hw1, hw2 b hb2]; exact hV _ (ix_lt _) b hb2)
        refine lv_if_eq (tgt := 218) hx hb dL_law_180 (by decide) (fun hc2 => ?_) (fun hc2 => absurd ((lg_cmp_eq _ _).mpr ev) hc2)
        refine W.widen (k := 68 + (k + 1)) (n := 4227 + 64 * (k + 1)) (by omega) (by omega) ?_
        exact tail r cL f t M HN locs ls hV hK hP hD hS hl
      · subst h
        refine lv_tableIn (off := 152) (tgt := 185) hx hb dL_law_33 (by decide) (by decide) (by decide +kernel) (by decide) ?_
        refine lv_aload_n hx hb dL_law_185 rfl (lv_at hl 1 rfl) ?_
        refine lv_aload_n hx hb dL_law_186 rfl (lv_at hl 0 rfl) ?_
        refine lv_iload_n hx hb dL_law_187 rfl (lv_at hl 3 rfl) ?_
        refine lv_iconst (v := nI 1) hx hb dL_law_188 (by decide) ?_
        refine wm_iadd hx hb dL_law_189 ?_
        refine wm_sld hx hb hX hbl hbA hS (by omega) hL31 dL_law_190 ?_
        refine lv_aload_n hx hb dL_law_191 rfl (lv_at hl 0 rfl) ?_
        refine lv_iload_n hx hb dL_law_192 rfl (lv_at hl 3 rfl) ?_
        refine lv_iconst (v := nI 2) hx hb dL_law_193 (by decide) ?_
        refine wm_iadd hx hb dL_law_194 ?_
        refine wm_sld hx hb hX hbl hbA hS (by omega) hL31 dL_law_195 ?_
        have hPd := mwL hP
        have hDd := mwDL hD
        have hKd := hK.sub (tys' := [(cL, .long)]) [0] rfl
        have hFd := mwFree hDd hS hA
        refine va_calli (va_runV (As := [.int (xs (6 * k + 1)), .int (xs (6 * k + 2))]) (rest := []) ⟨hx, hb, hml, hown, hts⟩ (met0_bit l D x r cL f (xs (6 * k + 1)) (xs (6 * k + 2)) H.size) (cwV 2 hts (lw_V q52 q53 q54 q3 q55) rfl rfl rfl (by decide +kernel) ⟨(Nat.le_of_ble_eq_true rfl), (Nat.le_of_ble_eq_true rfl)⟩) ⟨fun a U g mk q => ⟨q.1, q.2.calling g mk a⟩, va_recv hKd hPd (ci := 0) (q0 := 0) rfl rfl, fun U hU hW => ⟨rfl, mwC.give hPd hKd hDd hU hW⟩⟩ rfl rfl hl.1 rfl (lv_room (Nat.le_of_ble_eq_true rfl)) dL_law_196 ⟨by show _ ≤ 1200000; omega, by show _ ≤ 5502250; omega⟩) hS (fun q _ h => hFd q h) hFd (fun vA uA tA HA locs ht hvm hw1 hB hz1 hk2 hS => ?_)
        obtain ⟨hP1, hK1, hD1⟩ := hB
        rw [ht] at hP1
        obtain ⟨hP, hD⟩ := mwJoinL hP hD hk2 hFd hP1 hD1
        have hP : va_P D vwCl (lawW x r cL f o g cO cB t M) HA := hP
        have hD : va_D (lawA s) (lawW x r cL f o g cO cB t M) := hD
        refine lv_aload_n hx hb dL_law_199 rfl (lv_at hl 2 rfl) ?_
        refine lv_aload_n hx hb dL_law_200 rfl (lv_at hl 0 rfl) ?_
        refine lv_iload_n hx hb dL_law_201 rfl (lv_at hl 3 rfl) ?_
        refine lv_iconst (v := nI 1) hx hb dL_law_202 (by decide) ?_
        refine wm_iadd hx hb dL_law_203 ?_
        refine wm_sld hx hb hX hbl hbA hS (by omega) hL31 dL_law_204 ?_
        refine lv_aload_n hx hb dL_law_205 rfl (lv_at hl 0 rfl) ?_
        refine lv_iload_n hx hb dL_law_206 rfl (lv_at hl 3 rfl) ?_
        refine lv_iconst (v := nI 2) hx hb dL_law_207 (by decide) ?_
        refine wm_iadd hx hb dL_law_208 ?_
        refine wm_sld hx hb hX hbl hbA hS (by omega) hL31 dL_law_209 ?_
        have hPd := mwR hP
        have hDd := mwDR hD
        have hKd := hK.sub (tys' := moTy cO cB) [1, 2] rfl
        have hFd := mwFree hDd hS hA
        refine va_calli (va_runV (As := [.int (xs (6 * k + 1)), .int (xs (6 * k + 2))]) (rest := [.int (vA)]) ⟨hx, hb, hml, hown, hts⟩ (met1_bit l D o g cO cB t M (xs (6 * k + 1)) (xs (6 * k + 2)) HA.size) (cwV 2 hts (lw_V q103 q104 q105 q4 q106) rfl rfl rfl (by decide +kernel) ⟨(Nat.le_of_ble_eq_true rfl), (Nat.le_of_ble_eq_true rfl)⟩) ⟨fun a U g mk q => ⟨q.1, q.2.calling g mk a⟩, va_recv hKd hPd (ci := 1) (q0 := 0) rfl rfl, fun U hU hW => ⟨rfl, mwC.give hPd hKd hDd hU hW⟩⟩ rfl rfl hl.1 rfl (lv_room (Nat.le_of_ble_eq_true rfl)) dL_law_210 ⟨by show _ ≤ 1200000; omega, by show _ ≤ 5502250; omega⟩) hS (fun q _ h => hFd q h) hFd (fun vN uN tN HN locs ht hvm hw2 hB hz1 hk2 hS => ?_)
        obtain ⟨hP1, hK1, hD1⟩ := hB
        rw [ht] at hP1
        obtain ⟨hP, hD⟩ := mwJoinR hP hD hk2 hFd hP1 hD1
        have hP : va_P D vwCl (lawW x r cL f o g cO cB t M) HN := hP
        have hD : va_D (lawA s) (lawW x r cL f o g cO cB t M) := hD
        have ev : vA = vN := by rw [show vA = _ from hw1, show vN = _ from hw2, hV _ (ix_lt _) _ (ix_lt _)]
        refine lv_icmp_eq (tgt := 218) hx hb dL_law_213 (by decide) (fun hc2 => ?_) (fun hc2 => absurd ev hc2)
        refine W.widen (k := 68 + (k + 1)) (n := 4227 + 64 * (k + 1)) (by omega) (by omega) ?_
        exact tail r cL f t M HN locs ls hV hK hP hD hS hl
      · refine lv_tableOut (tgt := 218) hx hb dL_law_33 (Or.inr ?_) (by decide) ?_
        · rw [nI_toInt (by omega)]
          omega
        · refine W.widen (k := 68 + (k + 1)) (n := 4227 + 64 * (k + 1)) (by omega) (by omega) ?_
          exact tail r cL f t M H locs ls hV hK hP hD hS hl
end
section
-- ===== YOUR PART BEGINS =====
set_option maxHeartbeats 4000000 in
set_option maxRecDepth 100000 in
/-- YOUR PART: from the entry, for every script of at most 288 ints, the law comes to its end with true ('hflags': the launch's flags, for a law that throws: no stack traces) -/
theorem whole_start {p : Program} {e : Env} {s : State} {m : MethodId} {below : List Frame} {meth : Method} {c : Code} (l : Launch) (hflags : l.flags = flags0) {b L : Nat} {xs : Nat → Int32} (hL : L ≤ 288) (C0 : lw_At p s m meth c b L xs) : W p l e room_1 s m #[Value.ref b] below meth c s.heap [] 0 0 (lw_Z below #[Value.ref b] s) (entryFrame m ([Value.ref b] : List Value).toArray 4) := by
  have C1 := C0
  obtain ⟨hx, hb, hr, hml, hown, hts0, hX, hbl, hlocks, hgv⟩ := C0
  have hts : ∀ w ∈ lw_all, w.before #[Value.ref b] s = true := fun w h => hts0 w (lw_all_tbl h)
  obtain ⟨tb, hT⟩ := law_T hgv (hts0 _ q47) (hts _ q5)
  obtain ⟨c0_, i0_, hK0⟩ := u_known (C := RX0) (T := TX0) (N := 1) (n := 1) hts0 (fun w h => lw_all_tbl (in_X0 w h)) (hts _ q8)
  obtain ⟨c1_, i1_, hK1⟩ := u_known (C := RX1) (T := TX1) (N := 2) (n := 2) hts0 (fun w h => lw_all_tbl (in_X1 w h)) (hts _ q57)
  obtain ⟨D, hDe⟩ : ∃ D : mwG, D = (fun k => if k = 0 then c0_ else c1_, fun k => if k = 0 then i0_ else i1_) := ⟨_, rfl⟩
  have hK : va_K D vwCl [] s := by
    subst hDe
    refine ⟨fun k q hq => ?_, fun k q hq => by simp at hq⟩
    match k, hq with
    | 0, hq => cases hq; exact hK0
    | 1, hq => cases hq; exact hK1
    | k + 2, hq => simp [vwCl] at hq
  have hA : ∀ q : Nat, s.heap.size ≤ q → lawA s q := fun q h => h
  have hS : va_S (lawA s) s.heap s.heap [] := va_S.rf
  have hP : va_P D vwCl [] s.heap := fun k q h => by simp at h
  have hD : va_D (lawA s) [] := ⟨fun i j x y h => by simp at h, fun k q h => by simp at h⟩
  have hl := lv_entry ([.ref b]) (n := 4) (Nat.le_of_ble_eq_true rfl)
  rw [lg_entry_eq]
  generalize (lg_sl ([.ref b]) ++ List.replicate (4 - (lg_sl ([.ref b])).length) Slot.unset).toArray = ls at hl ⊢
  have hl : lv_has ls 4 [(0, .ref b)] := hl
  refine va_new (ci := 0) (fs := [.null]) (C := RX0) (T := TX0) (N := 1) hx hb hts in_X0 tyX0 tyX0_ok hown (hts _ q7) (hts _ q8) (hts _ q3) hK hP hD hS hA rfl (fun j hj => by rcases (show j = 0 by omega) with rfl <;> rfl) (Nat.le_of_ble_eq_true rfl) (Nat.le_of_ble_eq_true rfl) dL_law_0 (fun x H hP hD hS => ?_)
  have hP : va_P D vwCl [(x, .inr (0, [.null]))] H := hP
  have hD : va_D (lawA s) [(x, .inr (0, [.null]))] := hD
  refine lv_dup hx hb dL_law_3 rfl ?_
  have hFc := mwFree hD hS hA
  refine va_callv (va_runI (As := []) (rest := [.ref x]) ⟨hx, hb, hml, hown, hts⟩ (met0_init l D x H.size) (cwI 0 hts (lw_meth q11) rfl rfl rfl (hts _ q3) (hts _ q9) (hts _ q10) rfl (by decide +kernel) ⟨(Nat.le_of_ble_eq_true rfl), (Nat.le_of_ble_eq_true rfl)⟩) ⟨fun a U g mk q => ⟨q.1, q.2.calling g mk a⟩, fun U hU hW => ⟨rfl, mwC.give hP hK hD hU hW⟩⟩ rfl rfl hl.1 rfl (lv_room (Nat.le_of_ble_eq_true rfl)) dL_law_4 ⟨(Nat.le_of_ble_eq_true rfl), (Nat.le_of_ble_eq_true rfl)⟩) hS (fun q _ h => hFc q h) hFc (fun u t1 H1 locs ht hvm hw1 hB hz1 hk1 hS => ?_)
  obtain ⟨r, cL⟩ := u
  obtain ⟨hP1, hKx, hD1⟩ := hB
  rw [ht] at hP1
  have hP : va_P D vwCl (deskW x r cL (fun _ => 0)) H1 := hP1
  have hD : va_D (lawA s) (deskW x r cL (fun _ => 0)) := hD1.weaken (fun _ _ _ h => hFc _ h)
  have hK : va_K D vwCl [(cL, .long)] s := va_K.moved hvm.symm hKx
  refine lv_astore_n (lv' := [(1, .ref x), (0, .ref b)]) hx hb dL_law_7 rfl hl (by decide) rfl (fun ls hl => ?_)
  refine va_new (ci := 1) (fs := [.null, .int 0]) (C := RX1) (T := TX1) (N := 2) hx hb hts in_X1 tyX1 tyX1_ok hown (hts _ q56) (hts _ q57) (hts _ q4) hK hP hD hS hA rfl (fun j hj => by rcases (show j = 0 ∨ j = 1 by omega) with rfl | rfl <;> rfl) (Nat.le_of_ble_eq_true rfl) (Nat.le_of_ble_eq_true rfl) dL_law_8 (fun o H2 hP hD hS => ?_)
  refine lv_dup hx hb dL_law_11 rfl ?_
  have hPd := mwR hP
  have hDd := mwDR hD
  have hKd := hK.sub (tys' := []) [] rfl
  have hFd := mwFree hDd hS hA
  refine va_callv (va_runI (As := []) (rest := [.ref o]) ⟨hx, hb, hml, hown, hts⟩ (met1_init l D o H2.size) (cwI 0 hts (lw_meth q60) rfl rfl rfl (hts _ q4) (hts _ q58) (hts _ q59) rfl (by decide +kernel) ⟨(Nat.le_of_ble_eq_true rfl), (Nat.le_of_ble_eq_true rfl)⟩) ⟨fun a U g mk q => ⟨q.1, q.2.1.calling g mk a, over_moved (u := U) (E := U.calling g mk a) (Vm.Alike.refl U.vm) q.2.2⟩, fun U hU hW => ⟨rfl, mwC.give hPd hKd hDd hU hW, over_moved hW.alike (hts0 _ q63)⟩⟩ rfl rfl hl.1 rfl (lv_room (Nat.le_of_ble_eq_true rfl)) dL_law_12 ⟨(Nat.le_of_ble_eq_true rfl), (Nat.le_of_ble_eq_true rfl)⟩) hS (fun q _ h => hFd q h) hFd (fun u t2 H3 locs ht hvm hw2 hB hz1 hk2 hS => ?_)
  obtain ⟨g, cO, cB⟩ := u
  obtain ⟨hP1, hKx, hD1⟩ := hB
  rw [ht] at hP1
  obtain ⟨hP, hD⟩ := mwJoinR hP hD hk2 hFd hP1 hD1
  have hP : va_P D vwCl (lawW x r cL (fun _ => 0) o g cO cB false (fun _ _ => false)) H3 := hP
  have hD : va_D (lawA s) (lawW x r cL (fun _ => 0) o g cO cB false (fun _ _ => false)) := hD
  have hK : va_K D vwCl (lawTy cL cO cB) s := hK.app (va_K.moved hvm.symm hKx)
  refine lv_astore_n (lv' := [(2, .ref o), (1, .ref x), (0, .ref b)]) hx hb dL_law_15 rfl hl (by decide) rfl (fun ls hl => ?_)
  refine lv_iconst (v := nI 0) hx hb dL_law_16 (by decide) ?_
  refine lv_istore_n (lv' := [(3, .int (nI 0)), (2, .ref o), (1, .ref x), (0, .ref b)]) hx hb dL_law_17 rfl hl (by decide) rfl (fun ls hl => ?_)
  refine W.widen (k := 68 + 0) (n := 4227 + 64 * 0) (Nat.le_of_ble_eq_true rfl) (Nat.le_of_ble_eq_true rfl) ?_
  exact law_loop hL C1 hT 49 0 (Nat.zero_le _) (by omega) r cL (fun _ => 0) false (fun _ _ => false) H3 locs ls (fun a ha b hb2 => lb_0 b hb2) hK hP hD hS (lv_sub hl [3, 2, 1, 0] rfl)
-- ===== YOUR PART ENDS =====
set_option maxHeartbeats 4000000 in
theorem lw_walk (l : Launch) (hflags : l.flags = flags0) (b : Addr) (xs : List Int32) : MetFree l x (headSpec (Jvm.Cond.code x code maxLocals ret :: tables_1) room_1) (lw_P b xs) (fun _ _ _ _ _ => True) lw_Q := by
  refine MetFree.of_bodyS (code := code) (maxLocals := maxLocals) (ret := ret) (by decide) ?_ ?_
  · intro args s m h hn
    obtain ⟨meth, c, h1, h2, h3, h4, h5, h6, -, -⟩ := Cond.code_spec hn (atoms_spec (ws := Jvm.Cond.code x code maxLocals ret :: tables_1) h _ List.mem_cons_self)
    exact ⟨meth, c, h1, h2, h3, h4, h5, h6⟩
  · intro p e s m args below meth c s₁ B hml0 hP _
    obtain ⟨rfl, hx, hbd, hgv⟩ := hP
    obtain ⟨scr, harrAt, hlist, hof, hsmall⟩ := hx
    obtain ⟨hcb, hkn, -, -⟩ := State.arrayAt?_spec harrAt
    have hown : s.vm.findClass R_law = some m.cls := findClass_of_methodNamed B.named
    have hts0 : ∀ c ∈ (Jvm.Cond.code x code maxLocals ret :: tables_1), c.before #[Value.ref b] s = true := atoms_spec (ws := Jvm.Cond.code x code maxLocals ret :: tables_1) B.pre
    have hts : ∀ w ∈ lw_tbl, w.before #[Value.ref b] s = true := k2_hts_sels lw_privs (fun w hw => hts0 w (List.mem_cons_of_mem _ hw)) lw_privs_ok
    have hml : c.maxLocals = 4 := B.maxLocals_eq (hts0 _ List.mem_cons_self)
    have X₀ : Stand p l e room_1 s m #[Value.ref b] below meth c s₁ [] 0 0 := Stand.of_body B
    have hh0 : s₁.heap = s.heap := by rw [B.state]; rfl
    have hsz : scr.slots.size = xs.length := by rw [← Array.length_toList, hlist, List.length_map]
    have hval : ∀ j : Nat, j < xs.length → scr.slots[j]? = some (.int (xs.getD j 0)) := fun j hj => by
      rw [← Array.getElem?_toList, hlist]
      simp [hj]
    have hbl : b < s.heap.size := (Array.getElem?_eq_some_iff.mp hcb).1
    have hX : va_X b xs.length (fun j => xs.getD j 0) s s.heap := ⟨scr, hcb, hof, hkn, hsz, hval⟩
    have K : W p l e room_1 s m #[Value.ref b] below meth c s₁.heap [] 0 0 (lw_Z below #[Value.ref b] s) (entryFrame m ([Value.ref b] : List Value).toArray 4) := by
      rw [hh0]
      exact whole_start l hflags hbd ⟨B.exec, B.bytes, B.returns, hml, hown, hts, hX, hbl, B.notSynchronized, hgv⟩
    obtain ⟨t, a1, o, b1, b2, b3⟩ := K s₁ rfl X₀
    exact ⟨t, o, a1, b1, b2, b3⟩
theorem lw_pre_spec {args : Array Value} {s : State} (h : (Jvm.Cond.and given_1 narrow_1).before args s = true) (hr : rest_1_c.before args s = true) : ∃ (b : Addr) (xs : List Int32), lw_P b xs args s := by
  have hs := flat_of_before _ h
  have hq := flat_of_before _ hr
  have hc : (Cond.count 1).before args s = true := hs _ (by decide +kernel)
  have harr : (Cond.arrayOf (.arg 0) .int).before args s = true := hs _ (by decide +kernel)
  have hle : (Cond.le (.length (.arg 0)) (.int 288)).before args s = true := hs _ (by decide +kernel)
  have hlen : (Cond.isInt (.length (.arg 0))).before args s = true := hq _ (by decide +kernel)
  have hall : (Cond.all (.arg 0) (.isInt (.elem (.arg 0) (.index 0)))).before args s = true := hq _ (by decide +kernel)
  obtain ⟨b, xs, hb, hx⟩ := State.ints_of_pre rfl harr hlen hall
  have hsm : xs.length < 2 ^ 31 := hx.choose_spec.2.2.2
  have hev : (Term.length (.arg 0)).eval args s none [] s = some (.int xs.length.toInt32) := hx.length_eval hb
  have hv := Cond.le_ints hev (show (Term.int 288).eval args s none [] s = some (.int 288) from rfl)
  have hd : xs.length.toInt32 ≤ 288 := by
    simpa [Cond.before, Cond.holds, hv] using hle
  have hN : xs.length ≤ 288 := (Int32.ofNat_le_ofNat hsm (by decide)).mp (show Int32.ofNat xs.length ≤ Int32.ofNat 288 from hd)
  exact ⟨b, xs, Cond.one_arg hc (show args[0]? = some (.ref b) from hb), hx, hN, h⟩
theorem lw_comes (l : Launch) (hflags : l.flags = flags0) : Comes l x (Jvm.Cond.code x code maxLocals ret :: tables_1) room_1 (fun tb e args s => Calls_1 tb e args s ∧ rest_1 tb e args s ∧ Pre_1 tb e args s)
    (fun _ _ args s o t => lw_Q args s o t) := by
  intro p e ha hc hk s m args below hf hfit hheap happ hpre
  obtain ⟨b, xs, hP⟩ := lw_pre_spec hpre.2.2 hpre.2.1
  obtain ⟨k, o, h1, h2, h3, hQ⟩ := lw_walk l hflags b xs p e ha hc hk s m args below hf ((Spec.applies_iff_loose hf).mp happ).1 hP trivial
  exact ⟨k, o, h1, h2, h3, hQ⟩
theorem lw_frame {s t : State} {o : Outcome} {args : Array Value} (h : Framed s o t [] 1200000 5502250) :
    Framed s o t (fieldLocs frame_1_writes args s ++ arrayLocs frame_1_arrays args s ++ staticLocs frame_1_statics s) 1200000 5502250 := h
theorem lw_limb (L : Cond) (hL : ∀ (args : Array Value) (s t : State), L.after args s (.returned (some (.int 1))) t = true) :
    ArmFor flags0 classFile x code maxLocals ret World_1 tables_1 room_1 Calls_1 rest_1 Pre_1
      (fun tb e a s o t => postC L tb e a s o t ∧ Framed s o t (fieldLocs frame_1_writes a s ++ arrayLocs frame_1_arrays a s ++ staticLocs frame_1_statics s) 1200000 5502250) := by
  intro l hflags _ _ p e ha hc hk s m args below hf hfit hheap happ hpre
  obtain ⟨k, o, h1, h2, h3, rfl, hF⟩ := lw_comes l hflags p e ha hc hk s m args below hf hfit hheap happ hpre
  exact ⟨k, _, h1, h2, h3, hL args s _, lw_frame hF⟩
theorem i_vc : Claimed_1_1 ∧ Claimed_1_2 := ⟨lw_limb limb_1_1 (fun args s t => by simp [limb_1_1, Cond.after, Cond.holds, Cond.value]), lw_limb limb_1_2 (fun args s t => Cond.after_iff.mpr (by
  first | (rw [show limb_1_2 = Cond.eq .result (.int 1) from rfl, Cond.eq_ints (x := 1) (y := 1) rfl rfl]; simp; done) | (simp [limb_1_2, Cond.value, Term.eval]; done)))⟩
end
