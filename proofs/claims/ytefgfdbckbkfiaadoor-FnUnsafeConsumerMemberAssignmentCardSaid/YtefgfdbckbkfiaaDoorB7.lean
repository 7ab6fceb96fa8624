/- No sort.Slice in this seat. -/
import Derived.Test.YtefgfdbckbkfiaaDoorB6
